import JvmDerived
import JvmDerived.Pilot.@@N@@Statement
import JvmDerived.Pilot.@@N@@Code
set_option linter.unusedVariables false
set_option linter.unusedSimpArgs false
namespace Jvm.Pilot.@@N@@
open Jvm Jvm.ClassFile Sem Op Lib Jvm.Free Jvm.Stand Jvm.LawKit Jvm.RoadKit Bundle Jvm.Pilot.@@N@@.Jvm.D
section Own
variable {p : Program} {l : Launch} {e : Env} {R : Room} {s : State} {m : MethodId} {args : Array Value} {below : List Frame} {meth : Method} {c : Code} {T : State} {locs : List Loc} {cells slots : Nat} {Z : State} {a0 : Array Value} {h : Heap} {Φ : Outcome → State → Prop}
/-- what is left of a walk: from S the invocation ends as Φ says -/
def OGo (tb : Tables) (e : Env) (below : List Frame) (Φ : Outcome → State → Prop) (S : State) : Prop := ∃ s₂ o, Steps tb e below S s₂ ∧ s₂.status = .running ∧ Ended s₂ below o ∧ Φ o s₂
theorem OGo.st {tb : Tables} {S S' : State} (h : ∀ t, Steps tb e below S' t → Steps tb e below S t) (g : OGo tb e below Φ S') : OGo tb e below Φ S := by
  obtain ⟨s₂, o, h1, r⟩ := g
  exact ⟨s₂, o, h _ h1, r⟩
theorem OGo.fin (X : Stand p l e R s m args below meth c T locs cells slots) (hlk : meth.locks = false) {v : Option Value} (hv : meth.sig.returnType = none → v = none) {g : JFrame} {k n : Nat} (hk : cells ≤ k) (hn : slots ≤ n)
    (st : ∀ fs, (∀ (f : JFrame) (acts : List Action), f.method = m → f.locked = none → f.entered = [] → (doReturn e (T.setTop f) acts v).1 = T.setFrames fs) → Steps p.tables e below (T.setTop g) (T.setFrames fs))
    (hq : ∀ U, U.heap = T.heap → FrameEnd s (.returned v) U locs k n → Φ (.returned v) U) : OGo p.tables e below Φ (T.setTop g) := by
  obtain ⟨fs, hr, hrun, hended, hW, hsame⟩ := X.leave (v := v) hv hlk
  exact ⟨_, _, st fs hr, hrun, hended, hq _ rfl ⟨⟨_, rfl⟩, hW, hsame.mono hk hn⟩⟩
/-- a contract: what every body's theorem says -/
abbrev OCon (l : Launch) (Z : State) (y : MethodName) (bytes : ByteArray) (maxL : Nat) (ret : Option FieldType) (ws : List Jvm.Cond) (rm : Room) (as' : Array Value) (h0 : Heap) (Q : Option Value → Heap → List Loc → Prop) : Prop :=
  MetFree l y (head1 (Jvm.Cond.code y bytes maxL ret :: ws) rm) (fun a U => a = as' ∧ Z.Warmed39 U.vm ∧ U.heap = h0) (fun _ _ _ _ _ => True) (fun _ U o U' => ∃ v L, o = .returned v ∧ Q v U'.heap L ∧ FrameEnd U o U' L rm.cells rm.slots)
theorem OCon.of {y : MethodName} {bytes : ByteArray} {maxL : Nat} {ret : Option FieldType} {ws : List Jvm.Cond} {rm : Room} {as' : Array Value} {h0 : Heap} {Q : Option Value → Heap → List Loc → Prop} (hpl : plainFor y = true)
    (H : ∀ (p : Program) (e : Env) (s : State) (m : MethodId) (below : List Frame) (meth : Method) (c : Code) (s₁ : State) (Φ : Outcome → State → Prop), Stand p l e rm s m as' below meth c s₁ [] 0 0 → p.tables.exec = Jvm.exec → c.code = bytes → c.maxLocals = maxL → s.vm.findClass y.cls = some m.cls → meth.name = y.name → meth.sig.returnType = ret → meth.locks = false → Z.Warmed39 s.vm → s₁.heap = h0 →
      (∀ v L U, Q v U.heap L → FrameEnd s (.returned v) U L rm.cells rm.slots → Φ (.returned v) U) → OGo p.tables e below Φ (s₁.setTop (entryFrame m as' maxL))) :
    OCon l Z y bytes maxL ret ws rm as' h0 Q := by
  refine MetFree.of_bodySF hpl hisR ?_
  intro p e s m args below meth c s₁ Bd hml0 hP hK
  obtain ⟨rfl, hZ, hh⟩ := hP
  have e0 : s₁.heap = h0 := by rw [← hh, Bd.state]; rfl
  exact H p e s m below meth c s₁ _ (Stand.of_body Bd) Bd.exec Bd.bytes hml0 (findClass_of_methodNamed Bd.named) (name_of_methodNamed Bd.named Bd.method).1 Bd.returns Bd.notSynchronized hZ e0 (fun v L U hq hf => ⟨v, L, rfl, hq, hf⟩)
theorem own_callSt (X : Stand p l e R s m args below meth c T locs cells slots) (hx : p.tables.exec = Jvm.exec) (hZ : Z.Warmed39 s.vm) {own : String} {index : Nat} {y : MethodName} {bytes : ByteArray} {maxL : Nat} {ret : Option FieldType} {rm : Room} {as' : Array Value} {Q : Option Value → Heap → List Loc → Prop}
    (hown : s.vm.findClass own = some m.cls) (w1 : (Jvm.Cond.methodLink own index y).before a0 Z = true) (w2 : (Jvm.Cond.static y).before a0 Z = true) (w3 : (Jvm.Cond.initialized y.cls).before a0 Z = true) (w4 : (Jvm.Cond.code y bytes maxL ret).before a0 Z = true) (hy : y.cls ≠ "java/lang/invoke/MethodHandle" ∧ y.cls ≠ "java/lang/invoke/VarHandle")
    (hM : OCon l Z y bytes maxL ret [] rm as' h Q) (eT : T.heap = h) {W : Nat} (hf : rm.frames + 1 ≤ R.frames) (hl : W + (maxL + 11) + rm.locals ≤ R.locals) (hcl : cells + rm.cells ≤ R.cells) (hsl : slots + rm.slots ≤ R.slots)
    {pc : Nat} {ls : Array Slot} {stk : List Value} (hsize : ls.size = c.maxLocals) {argsL rest : List Value} (hlen : ∀ sig, parseMethodDescriptor y.desc = some sig → argsL.length = sig.parameters.length) (has : argsL.toArray = as') (hstack : stk = argsL.reverse ++ rest) (hW : (rest.map fun v => v.category).sum ≤ W)
    (hd : decode c.code pc = .ok (.invokestatic index, 3)) :
    ∃ v T' L, Stand p l e R s m args below meth c T' (locs ++ L) (cells + rm.cells) (slots + rm.slots) ∧ Q v T'.heap L ∧ ∀ target, Steps p.tables e below (T'.setTop (mkF m (pc + 3) ls (v.toList ++ rest))) target → Steps p.tables e below (T.setTop (mkF m pc ls stk)) target := by
  subst has
  obtain ⟨v, vm₁, ⟨T', L', k', n'⟩, -, X', ⟨L, hQ, l1, y1, z1⟩, st⟩ := Jvm.LawKit.callS X hx (y := y) hown (mvT hZ w1) (mvT hZ w2) (mvT hZ w3) (mvT hZ w4) hy (backOf (W := W) hM hZ w4 w3 hf hl) (g := mkF m pc ls stk) rfl hsize (argsL := argsL) (rest := rest) hlen hstack (by simpa using hW) hd (fun _ _ => ⟨rfl, eT, hcl, hsl⟩)
  dsimp only [Pt.U, Pt.locs, Pt.cells, Pt.slots] at X' l1 y1 z1 st hQ
  subst l1 y1 z1
  exact ⟨v, T', L, X', hQ, st⟩
theorem own_callSp (X : Stand p l e R s m args below meth c T locs cells slots) (hx : p.tables.exec = Jvm.exec) (hZ : Z.Warmed39 s.vm) {own : String} {index : Nat} {y : MethodName} {bytes : ByteArray} {maxL : Nat} {rm : Room} {as' : Array Value} {Q : Option Value → Heap → List Loc → Prop}
    (hy1 : y.name = "<init>") (hown : s.vm.findClass own = some m.cls) (w1 : (Jvm.Cond.methodLink own index y).before a0 Z = true) (w2 : (Jvm.Cond.instanceMethod y).before a0 Z = true) (w3 : (Jvm.Cond.initialized y.cls).before a0 Z = true) (w4 : (Jvm.Cond.code y bytes maxL none).before a0 Z = true) (hy : y.cls ≠ "java/lang/invoke/MethodHandle" ∧ y.cls ≠ "java/lang/invoke/VarHandle")
    (hM : OCon l Z y bytes maxL none [] rm as' h Q) (eT : T.heap = h) {W : Nat} (hf : rm.frames + 1 ≤ R.frames) (hl : W + (maxL + 11) + rm.locals ≤ R.locals) (hcl : cells + rm.cells ≤ R.cells) (hsl : slots + rm.slots ≤ R.slots)
    {pc : Nat} {ls : Array Slot} {stk : List Value} (hsize : ls.size = c.maxLocals) {a : Addr} {argsL rest : List Value} (hlen : ∀ sig, parseMethodDescriptor y.desc = some sig → argsL.length = sig.parameters.length) (has : (.ref a :: argsL).toArray = as') (hstack : stk = argsL.reverse ++ .ref a :: rest) (hW : (rest.map fun v => v.category).sum ≤ W)
    (hd : decode c.code pc = .ok (.invokespecial index, 3)) :
    ∃ v T' L, Stand p l e R s m args below meth c T' (locs ++ L) (cells + rm.cells) (slots + rm.slots) ∧ Q v T'.heap L ∧ ∀ target, Steps p.tables e below (T'.setTop (mkF m (pc + 3) ls (v.toList ++ rest))) target → Steps p.tables e below (T.setTop (mkF m pc ls stk)) target := by
  subst has
  obtain ⟨v, vm₁, ⟨T', L', k', n'⟩, -, X', ⟨L, hQ, l1, y1, z1⟩, st⟩ := X.specialBack hx (y := y) hy1 hown (mvT hZ w1) (mvT hZ w2) (mvT hZ w4) hy (backOf (W := W) hM hZ w4 w3 hf hl) (g := mkF m pc ls stk) rfl hsize (Steps.refl _) (a := a) (argsL := argsL) (rest := rest) hlen hstack (by simpa using hW) hd (fun _ _ => ⟨rfl, eT, hcl, hsl⟩)
  dsimp only [Pt.U, Pt.locs, Pt.cells, Pt.slots] at X' l1 y1 z1 st hQ
  subst l1 y1 z1
  exact ⟨v, T', L, X', hQ, fun t k => st.trans k⟩
theorem own_callVi (X : Stand p l e R s m args below meth c T locs cells slots) (hx : p.tables.exec = Jvm.exec) (hZ : Z.Warmed39 s.vm) {own C : String} {index : Nat} {y z : MethodName} {bytes : ByteArray} {maxL : Nat} {ret : Option FieldType} {rm : Room} {as' : Array Value} {Q : Option Value → Heap → List Loc → Prop}
    (hown : s.vm.findClass own = some m.cls) (w1 : (Jvm.Cond.methodLink own index y).before a0 Z = true) (w2 : (Jvm.Cond.declares y).before a0 Z = true) (nf : NotFace s y) (w3 : (Jvm.Cond.selects C y z).before a0 Z = true) (w4 : (Jvm.Cond.instanceMethod z).before a0 Z = true) (w5 : (Jvm.Cond.initialized z.cls).before a0 Z = true) (w6 : (Jvm.Cond.code z bytes maxL ret).before a0 Z = true) (hy : y.cls ≠ "java/lang/invoke/MethodHandle" ∧ y.cls ≠ "java/lang/invoke/VarHandle")
    (hM : OCon l Z z bytes maxL ret [] rm as' h Q) (eT : T.heap = h) {W : Nat} (hf : rm.frames + 1 ≤ R.frames) (hl : W + (maxL + 11) + rm.locals ≤ R.locals) (hcl : cells + rm.cells ≤ R.cells) (hsl : slots + rm.slots ≤ R.slots) {a : Addr} (E : Exa Z h a C)
    {pc : Nat} {ls : Array Slot} {stk : List Value} (hsize : ls.size = c.maxLocals) {argsL rest : List Value} (hlen : ∀ sig, parseMethodDescriptor y.desc = some sig → argsL.length = sig.parameters.length) (has : (.ref a :: argsL).toArray = as') (hstack : stk = argsL.reverse ++ .ref a :: rest) (hW : (rest.map fun v => v.category).sum ≤ W)
    (hd : decode c.code pc = .ok (.invokevirtual index, 3)) :
    ∃ v T' L, Stand p l e R s m args below meth c T' (locs ++ L) (cells + rm.cells) (slots + rm.slots) ∧ Q v T'.heap L ∧ ∀ target, Steps p.tables e below (T'.setTop (mkF m (pc + 3) ls (v.toList ++ rest))) target → Steps p.tables e below (T.setTop (mkF m pc ls stk)) target := by
  subst has
  obtain ⟨cq, kq, qa, qb, qc⟩ := isOf hZ eT E
  obtain ⟨v, vm₁, ⟨T', L', k', n'⟩, -, X', ⟨L, hQ, l1, y1, z1⟩, st⟩ := X.virtualBack hx (y := y) (z := z) hown (mvT hZ w1) (mvT hZ w2) nf (mvT hZ w3) (mvT hZ w4) hy (backOf (W := W) hM hZ w6 w5 hf hl) qa qc (g := mkF m pc ls stk) rfl hsize (Steps.refl _) (argsL := argsL) (rest := rest) hlen hstack (by simpa using hW) hd (fun _ _ => ⟨rfl, eT, hcl, hsl⟩)
  dsimp only [Pt.U, Pt.locs, Pt.cells, Pt.slots] at X' l1 y1 z1 st hQ
  subst l1 y1 z1
  exact ⟨v, T', L, X', hQ, fun t k => st.trans k⟩
theorem own_lremM {g : JFrame} {target : State} (X : Stand p l e R s m args below meth c T locs cells slots) (hx : p.tables.exec = Jvm.exec) (hg : g.method = m) {x y : Int64} {rest : List Value} (hd : decode c.code g.pc = .ok (.lrem, 1)) (hs : g.stack = .long y :: .long x :: rest) (hy : y ≠ 0)
    (hr : Steps p.tables e below (T.setTop { g with pc := g.pc + 1, stack := .long (x % y) :: rest }) target) : Steps p.tables e below (T.setTop g) target :=
  XT.lrem X.here hx hg hd hs hy (by rw [lrem_mod]; exact hr)
theorem own_nz {x : Int32} (q : x = 0 ∨ x = 1) : narrow .boolean (.int x) = .int x := by rcases q with rfl | rfl <;> rfl
theorem own_fz {x : Int32} (q : x = 0 ∨ x = 1) : fits .boolean (.int x) = true := by rcases q with rfl | rfl <;> rfl
theorem own_irr (x : Int32) : ¬ x < x := fun q => absurd (Int32.lt_iff_toInt_lt.mp q) (Int.lt_irrefl _)
theorem own_irrL (x : Int64) : ¬ x < x := fun q => absurd (Int64.lt_iff_toInt_lt.mp q) (Int.lt_irrefl _)
/-- a small int is one of the first n -/
theorem own_small {n : Nat} (hn : n < 2 ^ 31) (x : Int32) (h0 : ¬ x < 0) (h1 : x.toInt < n) : ∃ k : Fin n, x = Int32.ofInt k.val := by
  have h2 : 0 ≤ x.toInt := by
    rcases Int.lt_or_le x.toInt 0 with q | q
    · exact absurd (Int32.lt_iff_toInt_lt.mpr q) h0
    · exact q
  refine ⟨⟨x.toInt.toNat, by omega⟩, ?_⟩
  rw [Int.toNat_of_nonneg h2, Int32.ofInt_toInt]
end Own
section OwnUp
variable {p : Program} {l : Launch} {e : Env} {R : Room} {s : State} {m : MethodId} {args : Array Value} {below : List Frame} {meth : Method} {c : Code} {T : State} {locs : List Loc} {cells slots : Nat} {Z : State} {a0 : Array Value} {h : Heap} {Φ : Outcome → State → Prop}
theorem own_callUp (X : Stand p l e R s m args below meth c T locs cells slots) (hx : p.tables.exec = Jvm.exec) (hZ : Z.Warmed39 s.vm) {own C owner : String} {index : Nat} {y z : MethodName} {bytes : ByteArray} {maxL : Nat} {ret : Option FieldType} {rm : Room} {as' : Array Value} {Q : Option Value → Heap → List Loc → Prop}
    (hown : s.vm.findClass own = some m.cls) (w1 : (Jvm.Cond.methodLink own index y).before a0 Z = true) (w2 : (Jvm.Cond.sameMethod y.cls owner y.name y.desc).before a0 Z = true) (w2' : (Jvm.Cond.declares ⟨owner, y.name, y.desc⟩).before a0 Z = true) (hy : owner ≠ "java/lang/invoke/MethodHandle" ∧ owner ≠ "java/lang/invoke/VarHandle")
    (w3 : (Jvm.Cond.selects C y z).before a0 Z = true) (w4 : (Jvm.Cond.instanceMethod z).before a0 Z = true) (w5 : (Jvm.Cond.initialized z.cls).before a0 Z = true) (w6 : (Jvm.Cond.code z bytes maxL ret).before a0 Z = true)
    (hM : OCon l Z z bytes maxL ret [] rm as' h Q) (eT : T.heap = h) {W : Nat} (hf : rm.frames + 1 ≤ R.frames) (hl : W + (maxL + 11) + rm.locals ≤ R.locals) (hcl : cells + rm.cells ≤ R.cells) (hsl : slots + rm.slots ≤ R.slots) {a : Addr} (E : Exa Z h a C)
    {pc : Nat} {ls : Array Slot} {stk : List Value} (hsize : ls.size = c.maxLocals) {argsL rest : List Value} (hlen : ∀ sig, parseMethodDescriptor y.desc = some sig → argsL.length = sig.parameters.length) (has : (.ref a :: argsL).toArray = as') (hstack : stk = argsL.reverse ++ .ref a :: rest) (hW : (rest.map fun v => v.category).sum ≤ W)
    (hd : decode c.code pc = .ok (.invokevirtual index, 3)) :
    ∃ v T' L, Stand p l e R s m args below meth c T' (locs ++ L) (cells + rm.cells) (slots + rm.slots) ∧ Q v T'.heap L ∧ ∀ target, Steps p.tables e below (T'.setTop (mkF m (pc + 3) ls (v.toList ++ rest))) target → Steps p.tables e below (T.setTop (mkF m pc ls stk)) target := by
  subst has
  obtain ⟨cq, kq, qa, qb, qc⟩ := isOf hZ eT E
  obtain ⟨v, vm₁, ⟨T', L', k', n'⟩, -, X', ⟨L, hQ, l1, y1, z1⟩, st⟩ := X.virtualBackUp hx (x := y) (y := z) (owner := owner) hown (mvT hZ w1) (mvT hZ w2) (mvT hZ w2') hy (mvT hZ w3) (mvT hZ w4) (backOf (W := W) hM hZ w6 w5 hf hl) qa qc (g := mkF m pc ls stk) rfl hsize (Steps.refl _) (argsL := argsL) (rest := rest) hlen hstack (by simpa using hW) hd (fun _ _ => ⟨rfl, eT, hcl, hsl⟩)
  dsimp only [Pt.U, Pt.locs, Pt.cells, Pt.slots] at X' l1 y1 z1 st hQ
  subst l1 y1 z1
  exact ⟨v, T', L, X', hQ, fun t k => st.trans k⟩
end OwnUp
section OwnSta
variable {args : Array Value} {Z : State} {a : Addr} {t : Jvm.Term}
theorem own_eqV {u : Jvm.Term} {v : Value} (hu : u.eval args Z none [] Z = some v) (hv : (match v with | .retAddr _ => false | _ => true) = true) (q : (Jvm.Cond.eq t u).value args Z none Z [] = some true) : t.eval args Z none [] Z = some v := by
  obtain ⟨x, y, ex, ey, k1, k2⟩ := cmp_v (Or.inl q)
  cases hu.symm.trans ey
  rw [ex]
  cases x <;> cases v <;> simp_all [Jvm.Cond.value, Kin, Value.isRef]
theorem own_fldI {C n d : String} {k : Int32} (ev : t.eval args Z none [] Z = some (.ref a)) (q : (Jvm.Cond.eq (Jvm.Term.field t C n d) (Jvm.Term.int k)).value args Z none Z [] = some true) : Fld Z Z.heap a C n d (.int k) :=
  Fld.start ((fld_at ev).symm.trans (own_eqV (Term.int_eval k) rfl q))
theorem own_lenI {k : Int32} {cl : Cell} {ty : FieldType} (ev : t.eval args Z none [] Z = some (.ref a)) (A : Arr Z Z.heap a cl ty) (q : (Jvm.Cond.eq (Jvm.Term.length t) (Jvm.Term.int k)).value args Z none Z [] = some true) : cl.slots.size < 2 ^ 31 ∧ cl.slots.size.toInt32 = k := by
  have h := own_eqV (Term.int_eval k) rfl q
  obtain ⟨b, cell, ht, harr, hl⟩ := Term.length_spec h
  cases ev.symm.trans ht
  have ha : Z.arrayAt? a = some cl := Arr.fin (Vm.Alike.refl _) A
  cases ha.symm.trans harr
  by_cases hs : cl.slots.size < 2 ^ 31
  · exact ⟨hs, (Value.int.inj (Option.some.inj ((len_f ev ha hs).symm.trans h)))⟩
  · exfalso
    rw [Jvm.Term.eval, ev] at h
    simp [ha] at h
    omega
theorem own_elem {j : Int32} {n : Nat} {u : Jvm.Term} {v : Value} {cl : Cell} {ty : FieldType} (ev : t.eval args Z none [] Z = some (.ref a)) (A : Arr Z Z.heap a cl ty) (hu : u.eval args Z none [] Z = some v) (hv : (match v with | .retAddr _ => false | _ => true) = true) (hj : j.toNatClampNeg = n) (q : (Jvm.Cond.eq (Jvm.Term.elem t (Jvm.Term.int j)) u).value args Z none Z [] = some true) : cl.slots[n]? = some v :=
  hj ▸ (elem_in (own_eqV hu hv q) ev (Term.int_eval j) A.1).2
end OwnSta
theorem ow0 {Z : State} {a0 : Array Value} (hw : ∀ d ∈ tables_1, d.before a0 Z = true) : (Jvm.Cond.classLink "com/example/bowerbird/bowerbird/model/OpApplyPinLaw" (7 : Nat) "com/example/bowerbird/bowerbird/model/Formula$Connective$Op").before a0 Z = true := hw _ (List.mem_of_getElem? (i := 0) rfl)
theorem ow1 {Z : State} {a0 : Array Value} (hw : ∀ d ∈ tables_1, d.before a0 Z = true) : (Jvm.Cond.arrayOver (Jvm.ClassFile.FieldType.object "com/example/bowerbird/bowerbird/model/Formula$Connective$Op")).before a0 Z = true := hw _ (List.mem_of_getElem? (i := 1) rfl)
theorem ow2 {Z : State} {a0 : Array Value} (hw : ∀ d ∈ tables_1, d.before a0 Z = true) : (Jvm.Cond.fieldLink "com/example/bowerbird/bowerbird/model/OpApplyPinLaw" (9 : Nat) "com/example/bowerbird/bowerbird/model/Formula$Connective$Op" "AND" "Lcom/example/bowerbird/bowerbird/model/Formula$Connective$Op;").before a0 Z = true := hw _ (List.mem_of_getElem? (i := 2) rfl)
theorem ow3 {Z : State} {a0 : Array Value} (hw : ∀ d ∈ tables_1, d.before a0 Z = true) : (Jvm.Cond.initialized "com/example/bowerbird/bowerbird/model/Formula$Connective$Op").before a0 Z = true := hw _ (List.mem_of_getElem? (i := 3) rfl)
theorem ow4 {Z : State} {a0 : Array Value} (hw : ∀ d ∈ tables_1, d.before a0 Z = true) : (Jvm.Cond.laysStatic "com/example/bowerbird/bowerbird/model/Formula$Connective$Op" "AND" "Lcom/example/bowerbird/bowerbird/model/Formula$Connective$Op;").before a0 Z = true := hw _ (List.mem_of_getElem? (i := 4) rfl)
theorem ow6 {Z : State} {a0 : Array Value} (hw : ∀ d ∈ tables_1, d.before a0 Z = true) : (Jvm.Cond.fieldLink "com/example/bowerbird/bowerbird/model/OpApplyPinLaw" (13 : Nat) "com/example/bowerbird/bowerbird/model/Formula$Connective$Op" "OR" "Lcom/example/bowerbird/bowerbird/model/Formula$Connective$Op;").before a0 Z = true := hw _ (List.mem_of_getElem? (i := 6) rfl)
theorem ow7 {Z : State} {a0 : Array Value} (hw : ∀ d ∈ tables_1, d.before a0 Z = true) : (Jvm.Cond.laysStatic "com/example/bowerbird/bowerbird/model/Formula$Connective$Op" "OR" "Lcom/example/bowerbird/bowerbird/model/Formula$Connective$Op;").before a0 Z = true := hw _ (List.mem_of_getElem? (i := 7) rfl)
theorem ow8 {Z : State} {a0 : Array Value} (hw : ∀ d ∈ tables_1, d.before a0 Z = true) : (Jvm.Cond.fieldLink "com/example/bowerbird/bowerbird/model/OpApplyPinLaw" (16 : Nat) "com/example/bowerbird/bowerbird/model/Formula$Connective$Op" "IMPLIES" "Lcom/example/bowerbird/bowerbird/model/Formula$Connective$Op;").before a0 Z = true := hw _ (List.mem_of_getElem? (i := 8) rfl)
theorem ow9 {Z : State} {a0 : Array Value} (hw : ∀ d ∈ tables_1, d.before a0 Z = true) : (Jvm.Cond.laysStatic "com/example/bowerbird/bowerbird/model/Formula$Connective$Op" "IMPLIES" "Lcom/example/bowerbird/bowerbird/model/Formula$Connective$Op;").before a0 Z = true := hw _ (List.mem_of_getElem? (i := 9) rfl)
theorem ow10 {Z : State} {a0 : Array Value} (hw : ∀ d ∈ tables_1, d.before a0 Z = true) : (Jvm.Cond.fieldLink "com/example/bowerbird/bowerbird/model/OpApplyPinLaw" (19 : Nat) "com/example/bowerbird/bowerbird/model/Formula$Connective$Op" "IFF" "Lcom/example/bowerbird/bowerbird/model/Formula$Connective$Op;").before a0 Z = true := hw _ (List.mem_of_getElem? (i := 10) rfl)
theorem ow11 {Z : State} {a0 : Array Value} (hw : ∀ d ∈ tables_1, d.before a0 Z = true) : (Jvm.Cond.laysStatic "com/example/bowerbird/bowerbird/model/Formula$Connective$Op" "IFF" "Lcom/example/bowerbird/bowerbird/model/Formula$Connective$Op;").before a0 Z = true := hw _ (List.mem_of_getElem? (i := 11) rfl)
theorem ow12 {Z : State} {a0 : Array Value} (hw : ∀ d ∈ tables_1, d.before a0 Z = true) : (Jvm.Cond.arrayClass Jvm.ClassFile.FieldType.int).before a0 Z = true := hw _ (List.mem_of_getElem? (i := 12) rfl)
theorem ow13 {Z : State} {a0 : Array Value} (hw : ∀ d ∈ tables_1, d.before a0 Z = true) : (Jvm.Cond.methodLink "com/example/bowerbird/bowerbird/model/OpApplyPinLaw" (22 : Nat) ({ cls := "com/example/bowerbird/bowerbird/model/Formula$Connective$Op", name := "apply", desc := "(ZZ)Z" } : Jvm.MethodName)).before a0 Z = true := hw _ (List.mem_of_getElem? (i := 13) rfl)
theorem ow14 {Z : State} {a0 : Array Value} (hw : ∀ d ∈ tables_1, d.before a0 Z = true) : (Jvm.Cond.declares ({ cls := "com/example/bowerbird/bowerbird/model/Formula$Connective$Op", name := "apply", desc := "(ZZ)Z" } : Jvm.MethodName)).before a0 Z = true := hw _ (List.mem_of_getElem? (i := 14) rfl)
theorem ow15 {Z : State} {a0 : Array Value} (hw : ∀ d ∈ tables_1, d.before a0 Z = true) : (Jvm.Cond.instanceMethod ({ cls := "com/example/bowerbird/bowerbird/model/Formula$Connective$Op", name := "apply", desc := "(ZZ)Z" } : Jvm.MethodName)).before a0 Z = true := hw _ (List.mem_of_getElem? (i := 15) rfl)
theorem ow16 {Z : State} {a0 : Array Value} (hw : ∀ d ∈ tables_1, d.before a0 Z = true) : (Jvm.Cond.selects "com/example/bowerbird/bowerbird/model/Formula$Connective$Op" ({ cls := "com/example/bowerbird/bowerbird/model/Formula$Connective$Op", name := "apply", desc := "(ZZ)Z" } : Jvm.MethodName) ({ cls := "com/example/bowerbird/bowerbird/model/Formula$Connective$Op", name := "apply", desc := "(ZZ)Z" } : Jvm.MethodName)).before a0 Z = true := hw _ (List.mem_of_getElem? (i := 16) rfl)
theorem ow17 {Z : State} {a0 : Array Value} (hw : ∀ d ∈ tables_1, d.before a0 Z = true) : (Jvm.Cond.code ({ cls := "com/example/bowerbird/bowerbird/model/Formula$Connective$Op", name := "apply", desc := "(ZZ)Z" } : Jvm.MethodName) prog_23_method_4_code (3 : Nat) (Option.some Jvm.ClassFile.FieldType.boolean)).before a0 Z = true := hw _ (List.mem_of_getElem? (i := 17) rfl)
theorem ow18 {Z : State} {a0 : Array Value} (hw : ∀ d ∈ tables_1, d.before a0 Z = true) : (Jvm.Cond.methodLink "com/example/bowerbird/bowerbird/model/Formula$Connective$Op" (35 : Nat) ({ cls := "com/example/bowerbird/bowerbird/model/Formula$Connective$Op", name := "ordinal", desc := "()I" } : Jvm.MethodName)).before a0 Z = true := hw _ (List.mem_of_getElem? (i := 18) rfl)
theorem ow19 {Z : State} {a0 : Array Value} (hw : ∀ d ∈ tables_1, d.before a0 Z = true) : (Jvm.Cond.sameMethod "com/example/bowerbird/bowerbird/model/Formula$Connective$Op" "java/lang/Enum" "ordinal" "()I").before a0 Z = true := hw _ (List.mem_of_getElem? (i := 19) rfl)
theorem ow20 {Z : State} {a0 : Array Value} (hw : ∀ d ∈ tables_1, d.before a0 Z = true) : (Jvm.Cond.declares ({ cls := "java/lang/Enum", name := "ordinal", desc := "()I" } : Jvm.MethodName)).before a0 Z = true := hw _ (List.mem_of_getElem? (i := 20) rfl)
theorem ow21 {Z : State} {a0 : Array Value} (hw : ∀ d ∈ tables_1, d.before a0 Z = true) : (Jvm.Cond.instanceMethod ({ cls := "java/lang/Enum", name := "ordinal", desc := "()I" } : Jvm.MethodName)).before a0 Z = true := hw _ (List.mem_of_getElem? (i := 21) rfl)
theorem ow22 {Z : State} {a0 : Array Value} (hw : ∀ d ∈ tables_1, d.before a0 Z = true) : (Jvm.Cond.selects "com/example/bowerbird/bowerbird/model/Formula$Connective$Op" ({ cls := "com/example/bowerbird/bowerbird/model/Formula$Connective$Op", name := "ordinal", desc := "()I" } : Jvm.MethodName) ({ cls := "java/lang/Enum", name := "ordinal", desc := "()I" } : Jvm.MethodName)).before a0 Z = true := hw _ (List.mem_of_getElem? (i := 22) rfl)
theorem ow23 {Z : State} {a0 : Array Value} (hw : ∀ d ∈ tables_1, d.before a0 Z = true) : (Jvm.Cond.initialized "java/lang/Enum").before a0 Z = true := hw _ (List.mem_of_getElem? (i := 23) rfl)
theorem ow24 {Z : State} {a0 : Array Value} (hw : ∀ d ∈ tables_1, d.before a0 Z = true) : (Jvm.Cond.code ({ cls := "java/lang/Enum", name := "ordinal", desc := "()I" } : Jvm.MethodName) jdk_37_method_2_code (1 : Nat) (Option.some Jvm.ClassFile.FieldType.int)).before a0 Z = true := hw _ (List.mem_of_getElem? (i := 24) rfl)
theorem ow25 {Z : State} {a0 : Array Value} (hw : ∀ d ∈ tables_1, d.before a0 Z = true) : (Jvm.Cond.fieldLink "java/lang/Enum" (7 : Nat) "java/lang/Enum" "ordinal" "I").before a0 Z = true := hw _ (List.mem_of_getElem? (i := 25) rfl)
def own_ap0 (l r : Int32) : Int32 := if l = 0 then 0 else if r = 0 then 0 else 1
def own_ap1 (l r : Int32) : Int32 := if l = 0 then (if r = 0 then 0 else 1) else 1
def own_ap2 (l r : Int32) : Int32 := if l = 0 then 1 else if r = 0 then 0 else 1
def own_ap3 (l r : Int32) : Int32 := if l = r then 1 else 0
theorem own_and3 (k : Int32) : k &&& 3 = 0 ∨ k &&& 3 = 1 ∨ k &&& 3 = 2 ∨ k &&& 3 = 3 := by
  have h1 := c_mask k 3 2 (by decide) (by decide)
  have h3 : ∀ z : Int32, (k &&& 3).toInt = z.toInt → k &&& 3 = z := fun z q => Int32.toInt_inj.mp q
  have a0 : (0 : Int32).toInt = 0 := by decide
  have a1 : (1 : Int32).toInt = 1 := by decide
  have a2 : (2 : Int32).toInt = 2 := by decide
  have a3 : (3 : Int32).toInt = 3 := by decide
  have : (k &&& 3).toInt = 0 ∨ (k &&& 3).toInt = 1 ∨ (k &&& 3).toInt = 2 ∨ (k &&& 3).toInt = 3 := by omega
  rcases this with q | q | q | q
  · exact Or.inl (h3 0 (by rw [q, a0]))
  · exact Or.inr (Or.inl (h3 1 (by rw [q, a1])))
  · exact Or.inr (Or.inr (Or.inl (h3 2 (by rw [q, a2]))))
  · exact Or.inr (Or.inr (Or.inr (h3 3 (by rw [q, a3]))))

theorem pn0 : plainName "java/lang/Enum" = true := by first | (simp [plainName, overriddenIn]; done) | decide +kernel
theorem d_jdk_37_method_2_0 : decode jdk_37_method_2_code 0 = .ok (.aload_n 0, 1) := by decide +kernel
theorem d_jdk_37_method_2_1 : decode jdk_37_method_2_code 1 = .ok (.getfield 7, 3) := by decide +kernel
theorem d_jdk_37_method_2_4 : decode jdk_37_method_2_code 4 = .ok (.ireturn, 1) := by decide +kernel
theorem ef_rm1 (m : MethodId) (x0 : Addr) : entryFrame m #[(.ref x0)] 1 = mkF m 0 #[.val (.ref x0)] [] := by first | (simp [entryFrame, mkF, argsToLocals, Value.category]; done) | rfl
def Q_rm1 (Z : State) (a : Addr) (q : Int32) (h0 : Heap) (n0 : Nat) (v : Option Value) (h : Heap) (L : List Loc) : Prop := v = some (.int q) ∧ Fr n0 L ∧ h = h0
set_option maxRecDepth 65536 in
set_option maxHeartbeats 40000000 in
theorem rm1 (l : Launch) (Z : State) (a0 : Array Value) (hw : ∀ d ∈ tables_1, d.before a0 Z = true) (ws : List Jvm.Cond) (a : Addr) (q : Int32) (h0 : Heap) (n0 : Nat) (Z0 : n0 ≤ h0.size) (F_a : Fld Z h0 a "java/lang/Enum" "ordinal" "I" (.int q)) :
    OCon l Z (⟨"java/lang/Enum", "ordinal", "()I"⟩ : MethodName) jdk_37_method_2_code 1 (some .int) ws ({ frames := 0, cells := 0, slots := 0, locals := 0 } : Room) #[(.ref a)] h0 (Q_rm1 Z a q h0 n0) := by
  refine OCon.of (plainFor_of_name pn0) ?_
  intro p e s m below meth c s₁ Φ X0 hx hby hml hown hnm hret hlk hZ e0 hΦ
  have N0 := Fr.nil n0
  refine OGo.st (fun _ kz => castTop (ef_rm1 m a) kz) ?_
  show OGo p.tables e below Φ (s₁.setTop (mkF m 0 #[.val (.ref a)] []))
  refine OGo.st (fun _ kz => XS.aloadN X0.here hx rfl (hb hby d_jdk_37_method_2_0) rfl rfl kz) ?_
  show OGo p.tables e below Φ (s₁.setTop (mkF m 1 #[.val (.ref a)] [(.ref a)]))
  obtain ⟨T1, X1, e1, st1⟩ := getF X0 hx hZ hown (host := "") (Or.inl (ow25 hw)) Via.refl e0 F_a (g := (mkF m 1 #[.val (.ref a)] [(.ref a)])) rfl rfl (hb hby d_jdk_37_method_2_1)
  refine OGo.st st1 ?_
  show OGo p.tables e below Φ (T1.setTop (mkF m 4 #[.val (.ref a)] [(.int q)]))
  refine OGo.fin X1 hlk (v := (some (.int q))) (fun h => by rw [hret] at h; cases h) (by decide) (by decide) (fun fs hr => X1.ireturnOut hx hret rfl (by simp) (hb hby d_jdk_37_method_2_4) hr) fun U eU hF => hΦ _ _ _ ?_ hF
  rw [eU, e1]
  show Q_rm1 Z a q h0 n0 _ _ _
  exact ⟨rfl, N0, rfl⟩

theorem pn1 : plainName "com/example/bowerbird/bowerbird/model/Formula$Connective$Op" = true := by first | (simp [plainName, overriddenIn]; done) | decide +kernel
theorem d_prog_23_method_4_0 : decode prog_23_method_4_code 0 = .ok (.aload_n 0, 1) := by decide +kernel
theorem d_prog_23_method_4_1 : decode prog_23_method_4_code 1 = .ok (.invokevirtual 35, 3) := by decide +kernel
theorem pd0 : parseMethodDescriptor "()I" = some ⟨[], some .int⟩ := by decide +kernel
theorem d_prog_23_method_4_4 : decode prog_23_method_4_code 4 = .ok (.tableswitch 32 0 3 #[42, 58, 74, 90], 32) := by decide +kernel
theorem d_prog_23_method_4_46 : decode prog_23_method_4_code 46 = .ok (.iload_n 1, 1) := by decide +kernel
theorem d_prog_23_method_4_47 : decode prog_23_method_4_code 47 = .ok (.ifCond .eq 11, 3) := by decide +kernel
theorem d_prog_23_method_4_58 : decode prog_23_method_4_code 58 = .ok (.iconst 0, 1) := by decide +kernel
theorem d_prog_23_method_4_59 : decode prog_23_method_4_code 59 = .ok (.goto 45, 3) := by decide +kernel
theorem d_prog_23_method_4_104 : decode prog_23_method_4_code 104 = .ok (.ireturn, 1) := by decide +kernel
theorem d_prog_23_method_4_50 : decode prog_23_method_4_code 50 = .ok (.iload_n 2, 1) := by decide +kernel
theorem d_prog_23_method_4_51 : decode prog_23_method_4_code 51 = .ok (.ifCond .eq 7, 3) := by decide +kernel
theorem d_prog_23_method_4_54 : decode prog_23_method_4_code 54 = .ok (.iconst 1, 1) := by decide +kernel
theorem d_prog_23_method_4_55 : decode prog_23_method_4_code 55 = .ok (.goto 49, 3) := by decide +kernel
theorem ef_rm2_0 (m : MethodId) (x0 : Addr) (x1 : Int32) (x2 : Int32) : entryFrame m #[(.ref x0), (.int x1), (.int x2)] 3 = mkF m 0 #[.val (.ref x0), .val (.int x1), .val (.int x2)] [] := by first | (simp [entryFrame, mkF, argsToLocals, Value.category]; done) | rfl
def Q_rm2_0 (Z : State) (a : Addr) (x1 : Int32) (x2 : Int32) (h0 : Heap) (n0 : Nat) (v : Option Value) (h : Heap) (L : List Loc) : Prop := v = some (.int (own_ap0 x1 x2)) ∧ Fr n0 L ∧ h = h0
set_option maxRecDepth 65536 in
set_option maxHeartbeats 40000000 in
theorem rm2_0 (l : Launch) (Z : State) (a0 : Array Value) (hw : ∀ d ∈ tables_1, d.before a0 Z = true) (ws : List Jvm.Cond) (a : Addr) (x1 : Int32) (x2 : Int32) (h0 : Heap) (n0 : Nat) (Z0 : n0 ≤ h0.size) (F_a : Fld Z h0 a "java/lang/Enum" "ordinal" "I" (.int (0 : Int32))) (E_a : Exa Z h0 a "com/example/bowerbird/bowerbird/model/Formula$Connective$Op") :
    OCon l Z (⟨"com/example/bowerbird/bowerbird/model/Formula$Connective$Op", "apply", "(ZZ)Z"⟩ : MethodName) prog_23_method_4_code 3 (some .boolean) ws ({ frames := 1, cells := 0, slots := 0, locals := 12 } : Room) #[(.ref a), (.int x1), (.int x2)] h0 (Q_rm2_0 Z a x1 x2 h0 n0) := by
  refine OCon.of (plainFor_of_name pn1) ?_
  intro p e s m below meth c s₁ Φ X0 hx hby hml hown hnm hret hlk hZ e0 hΦ
  have N0 := Fr.nil n0
  refine OGo.st (fun _ kz => castTop (ef_rm2_0 m a x1 x2) kz) ?_
  show OGo p.tables e below Φ (s₁.setTop (mkF m 0 #[.val (.ref a), .val (.int x1), .val (.int x2)] []))
  refine OGo.st (fun _ kz => XS.aloadN X0.here hx rfl (hb hby d_prog_23_method_4_0) rfl rfl kz) ?_
  show OGo p.tables e below Φ (s₁.setTop (mkF m 1 #[.val (.ref a), .val (.int x1), .val (.int x2)] [(.ref a)]))
  obtain ⟨_, T1, L1, X1, hQ1, st1⟩ := own_callUp X0 hx hZ hown (ow18 hw) (ow19 hw) (ow20 hw) (by decide) (ow22 hw) (ow21 hw) (ow23 hw) (ow24 hw) (rm1 l Z a0 hw [] a (0 : Int32) h0 n0 Z0 F_a) e0 (W := 0) (by decide) (by decide) (by decide) (by decide) E_a (pc := 1) (ls := #[.val (.ref a), .val (.int x1), .val (.int x2)]) (stk := [(.ref a)]) (by rw [hml]; rfl) (argsL := []) (rest := []) (lenOf pd0 rfl) rfl rfl (Nat.le_of_eq rfl) (hb hby d_prog_23_method_4_1)
  obtain ⟨rfl, Nq1, e1⟩ := hQ1
  have N1 := Fr.app N0 Nq1
  refine OGo.st st1 ?_
  show OGo p.tables e below Φ (T1.setTop (mkF m 4 #[.val (.ref a), .val (.int x1), .val (.int x2)] [(.int (0 : Int32))]))
  refine OGo.st (fun _ kz => XS.tswIn X1.here hx rfl (o := 42) (pc0 := 4) (pc' := 46) rfl (hb hby d_prog_23_method_4_4) rfl (by decide) (by decide) (by decide) (by decide) kz) ?_
  show OGo p.tables e below Φ (T1.setTop (mkF m 46 #[.val (.ref a), .val (.int x1), .val (.int x2)] []))
  refine OGo.st (fun _ kz => XS.iloadN X1.here hx rfl (hb hby d_prog_23_method_4_46) rfl kz) ?_
  show OGo p.tables e below Φ (T1.setTop (mkF m 47 #[.val (.ref a), .val (.int x1), .val (.int x2)] [(.int x1)]))
  by_cases hc2 : x1 = 0
  · refine OGo.st (fun _ kz => XS.ifYes X1.here hx rfl (pc0 := 47) (pc' := 58) rfl (hb hby d_prog_23_method_4_47) rfl (XT.i0_eq_t hc2) (by decide) (by decide) kz) ?_
    show OGo p.tables e below Φ (T1.setTop (mkF m 58 #[.val (.ref a), .val (.int x1), .val (.int x2)] []))
    refine OGo.st (fun _ kz => XS.iconst X1.here hx rfl (hb hby d_prog_23_method_4_58) kz) ?_
    show OGo p.tables e below Φ (T1.setTop (mkF m 59 #[.val (.ref a), .val (.int x1), .val (.int x2)] [(.int (0 : Int32))]))
    refine OGo.st (fun _ kz => XS.goto X1.here hx rfl (pc0 := 59) (pc' := 104) rfl (hb hby d_prog_23_method_4_59) (by decide) (by decide) kz) ?_
    show OGo p.tables e below Φ (T1.setTop (mkF m 104 #[.val (.ref a), .val (.int x1), .val (.int x2)] [(.int (0 : Int32))]))
    refine OGo.fin X1 hlk (v := (some (.int (0 : Int32)))) (fun h => by rw [hret] at h; cases h) (by decide) (by decide) (fun fs hr => X1.ireturnOut hx hret rfl (by simp) (hb hby d_prog_23_method_4_104) hr) fun U eU hF => hΦ _ _ _ ?_ hF
    rw [eU, e1]
    show Q_rm2_0 Z a x1 x2 h0 n0 _ _ _
    exact ⟨by simp [own_ap0, hc2], N1, rfl⟩
  · refine OGo.st (fun _ kz => XS.ifNo X1.here hx rfl (hb hby d_prog_23_method_4_47) rfl (XT.i0_eq_f hc2) kz) ?_
    show OGo p.tables e below Φ (T1.setTop (mkF m 50 #[.val (.ref a), .val (.int x1), .val (.int x2)] []))
    refine OGo.st (fun _ kz => XS.iloadN X1.here hx rfl (hb hby d_prog_23_method_4_50) rfl kz) ?_
    show OGo p.tables e below Φ (T1.setTop (mkF m 51 #[.val (.ref a), .val (.int x1), .val (.int x2)] [(.int x2)]))
    by_cases hc3 : x2 = 0
    · refine OGo.st (fun _ kz => XS.ifYes X1.here hx rfl (pc0 := 51) (pc' := 58) rfl (hb hby d_prog_23_method_4_51) rfl (XT.i0_eq_t hc3) (by decide) (by decide) kz) ?_
      show OGo p.tables e below Φ (T1.setTop (mkF m 58 #[.val (.ref a), .val (.int x1), .val (.int x2)] []))
      refine OGo.st (fun _ kz => XS.iconst X1.here hx rfl (hb hby d_prog_23_method_4_58) kz) ?_
      show OGo p.tables e below Φ (T1.setTop (mkF m 59 #[.val (.ref a), .val (.int x1), .val (.int x2)] [(.int (0 : Int32))]))
      refine OGo.st (fun _ kz => XS.goto X1.here hx rfl (pc0 := 59) (pc' := 104) rfl (hb hby d_prog_23_method_4_59) (by decide) (by decide) kz) ?_
      show OGo p.tables e below Φ (T1.setTop (mkF m 104 #[.val (.ref a), .val (.int x1), .val (.int x2)] [(.int (0 : Int32))]))
      refine OGo.fin X1 hlk (v := (some (.int (0 : Int32)))) (fun h => by rw [hret] at h; cases h) (by decide) (by decide) (fun fs hr => X1.ireturnOut hx hret rfl (by simp) (hb hby d_prog_23_method_4_104) hr) fun U eU hF => hΦ _ _ _ ?_ hF
      rw [eU, e1]
      show Q_rm2_0 Z a x1 x2 h0 n0 _ _ _
      exact ⟨by simp [own_ap0, hc2, hc3], N1, rfl⟩
    · refine OGo.st (fun _ kz => XS.ifNo X1.here hx rfl (hb hby d_prog_23_method_4_51) rfl (XT.i0_eq_f hc3) kz) ?_
      show OGo p.tables e below Φ (T1.setTop (mkF m 54 #[.val (.ref a), .val (.int x1), .val (.int x2)] []))
      refine OGo.st (fun _ kz => XS.iconst X1.here hx rfl (hb hby d_prog_23_method_4_54) kz) ?_
      show OGo p.tables e below Φ (T1.setTop (mkF m 55 #[.val (.ref a), .val (.int x1), .val (.int x2)] [(.int (1 : Int32))]))
      refine OGo.st (fun _ kz => XS.goto X1.here hx rfl (pc0 := 55) (pc' := 104) rfl (hb hby d_prog_23_method_4_55) (by decide) (by decide) kz) ?_
      show OGo p.tables e below Φ (T1.setTop (mkF m 104 #[.val (.ref a), .val (.int x1), .val (.int x2)] [(.int (1 : Int32))]))
      refine OGo.fin X1 hlk (v := (some (.int (1 : Int32)))) (fun h => by rw [hret] at h; cases h) (by decide) (by decide) (fun fs hr => X1.ireturnOut hx hret rfl (by simp) (hb hby d_prog_23_method_4_104) hr) fun U eU hF => hΦ _ _ _ ?_ hF
      rw [eU, e1]
      show Q_rm2_0 Z a x1 x2 h0 n0 _ _ _
      exact ⟨by simp [own_ap0, hc2, hc3], N1, rfl⟩

theorem d_prog_23_method_4_62 : decode prog_23_method_4_code 62 = .ok (.iload_n 1, 1) := by decide +kernel
theorem d_prog_23_method_4_63 : decode prog_23_method_4_code 63 = .ok (.ifCond .ne 7, 3) := by decide +kernel
theorem d_prog_23_method_4_66 : decode prog_23_method_4_code 66 = .ok (.iload_n 2, 1) := by decide +kernel
theorem d_prog_23_method_4_67 : decode prog_23_method_4_code 67 = .ok (.ifCond .eq 7, 3) := by decide +kernel
theorem d_prog_23_method_4_74 : decode prog_23_method_4_code 74 = .ok (.iconst 0, 1) := by decide +kernel
theorem d_prog_23_method_4_75 : decode prog_23_method_4_code 75 = .ok (.goto 29, 3) := by decide +kernel
theorem d_prog_23_method_4_70 : decode prog_23_method_4_code 70 = .ok (.iconst 1, 1) := by decide +kernel
theorem d_prog_23_method_4_71 : decode prog_23_method_4_code 71 = .ok (.goto 33, 3) := by decide +kernel
theorem ef_rm2_1 (m : MethodId) (x0 : Addr) (x1 : Int32) (x2 : Int32) : entryFrame m #[(.ref x0), (.int x1), (.int x2)] 3 = mkF m 0 #[.val (.ref x0), .val (.int x1), .val (.int x2)] [] := by first | (simp [entryFrame, mkF, argsToLocals, Value.category]; done) | rfl
def Q_rm2_1 (Z : State) (a : Addr) (x1 : Int32) (x2 : Int32) (h0 : Heap) (n0 : Nat) (v : Option Value) (h : Heap) (L : List Loc) : Prop := v = some (.int (own_ap1 x1 x2)) ∧ Fr n0 L ∧ h = h0
set_option maxRecDepth 65536 in
set_option maxHeartbeats 40000000 in
theorem rm2_1 (l : Launch) (Z : State) (a0 : Array Value) (hw : ∀ d ∈ tables_1, d.before a0 Z = true) (ws : List Jvm.Cond) (a : Addr) (x1 : Int32) (x2 : Int32) (h0 : Heap) (n0 : Nat) (Z0 : n0 ≤ h0.size) (F_a : Fld Z h0 a "java/lang/Enum" "ordinal" "I" (.int (1 : Int32))) (E_a : Exa Z h0 a "com/example/bowerbird/bowerbird/model/Formula$Connective$Op") :
    OCon l Z (⟨"com/example/bowerbird/bowerbird/model/Formula$Connective$Op", "apply", "(ZZ)Z"⟩ : MethodName) prog_23_method_4_code 3 (some .boolean) ws ({ frames := 1, cells := 0, slots := 0, locals := 12 } : Room) #[(.ref a), (.int x1), (.int x2)] h0 (Q_rm2_1 Z a x1 x2 h0 n0) := by
  refine OCon.of (plainFor_of_name pn1) ?_
  intro p e s m below meth c s₁ Φ X0 hx hby hml hown hnm hret hlk hZ e0 hΦ
  have N0 := Fr.nil n0
  refine OGo.st (fun _ kz => castTop (ef_rm2_1 m a x1 x2) kz) ?_
  show OGo p.tables e below Φ (s₁.setTop (mkF m 0 #[.val (.ref a), .val (.int x1), .val (.int x2)] []))
  refine OGo.st (fun _ kz => XS.aloadN X0.here hx rfl (hb hby d_prog_23_method_4_0) rfl rfl kz) ?_
  show OGo p.tables e below Φ (s₁.setTop (mkF m 1 #[.val (.ref a), .val (.int x1), .val (.int x2)] [(.ref a)]))
  obtain ⟨_, T1, L1, X1, hQ1, st1⟩ := own_callUp X0 hx hZ hown (ow18 hw) (ow19 hw) (ow20 hw) (by decide) (ow22 hw) (ow21 hw) (ow23 hw) (ow24 hw) (rm1 l Z a0 hw [] a (1 : Int32) h0 n0 Z0 F_a) e0 (W := 0) (by decide) (by decide) (by decide) (by decide) E_a (pc := 1) (ls := #[.val (.ref a), .val (.int x1), .val (.int x2)]) (stk := [(.ref a)]) (by rw [hml]; rfl) (argsL := []) (rest := []) (lenOf pd0 rfl) rfl rfl (Nat.le_of_eq rfl) (hb hby d_prog_23_method_4_1)
  obtain ⟨rfl, Nq1, e1⟩ := hQ1
  have N1 := Fr.app N0 Nq1
  refine OGo.st st1 ?_
  show OGo p.tables e below Φ (T1.setTop (mkF m 4 #[.val (.ref a), .val (.int x1), .val (.int x2)] [(.int (1 : Int32))]))
  refine OGo.st (fun _ kz => XS.tswIn X1.here hx rfl (o := 58) (pc0 := 4) (pc' := 62) rfl (hb hby d_prog_23_method_4_4) rfl (by decide) (by decide) (by decide) (by decide) kz) ?_
  show OGo p.tables e below Φ (T1.setTop (mkF m 62 #[.val (.ref a), .val (.int x1), .val (.int x2)] []))
  refine OGo.st (fun _ kz => XS.iloadN X1.here hx rfl (hb hby d_prog_23_method_4_62) rfl kz) ?_
  show OGo p.tables e below Φ (T1.setTop (mkF m 63 #[.val (.ref a), .val (.int x1), .val (.int x2)] [(.int x1)]))
  by_cases hc2 : x1 = 0
  · refine OGo.st (fun _ kz => XS.ifNo X1.here hx rfl (hb hby d_prog_23_method_4_63) rfl (XT.i0_ne_f hc2) kz) ?_
    show OGo p.tables e below Φ (T1.setTop (mkF m 66 #[.val (.ref a), .val (.int x1), .val (.int x2)] []))
    refine OGo.st (fun _ kz => XS.iloadN X1.here hx rfl (hb hby d_prog_23_method_4_66) rfl kz) ?_
    show OGo p.tables e below Φ (T1.setTop (mkF m 67 #[.val (.ref a), .val (.int x1), .val (.int x2)] [(.int x2)]))
    by_cases hc3 : x2 = 0
    · refine OGo.st (fun _ kz => XS.ifYes X1.here hx rfl (pc0 := 67) (pc' := 74) rfl (hb hby d_prog_23_method_4_67) rfl (XT.i0_eq_t hc3) (by decide) (by decide) kz) ?_
      show OGo p.tables e below Φ (T1.setTop (mkF m 74 #[.val (.ref a), .val (.int x1), .val (.int x2)] []))
      refine OGo.st (fun _ kz => XS.iconst X1.here hx rfl (hb hby d_prog_23_method_4_74) kz) ?_
      show OGo p.tables e below Φ (T1.setTop (mkF m 75 #[.val (.ref a), .val (.int x1), .val (.int x2)] [(.int (0 : Int32))]))
      refine OGo.st (fun _ kz => XS.goto X1.here hx rfl (pc0 := 75) (pc' := 104) rfl (hb hby d_prog_23_method_4_75) (by decide) (by decide) kz) ?_
      show OGo p.tables e below Φ (T1.setTop (mkF m 104 #[.val (.ref a), .val (.int x1), .val (.int x2)] [(.int (0 : Int32))]))
      refine OGo.fin X1 hlk (v := (some (.int (0 : Int32)))) (fun h => by rw [hret] at h; cases h) (by decide) (by decide) (fun fs hr => X1.ireturnOut hx hret rfl (by simp) (hb hby d_prog_23_method_4_104) hr) fun U eU hF => hΦ _ _ _ ?_ hF
      rw [eU, e1]
      show Q_rm2_1 Z a x1 x2 h0 n0 _ _ _
      exact ⟨by simp [own_ap1, hc2, hc3], N1, rfl⟩
    · refine OGo.st (fun _ kz => XS.ifNo X1.here hx rfl (hb hby d_prog_23_method_4_67) rfl (XT.i0_eq_f hc3) kz) ?_
      show OGo p.tables e below Φ (T1.setTop (mkF m 70 #[.val (.ref a), .val (.int x1), .val (.int x2)] []))
      refine OGo.st (fun _ kz => XS.iconst X1.here hx rfl (hb hby d_prog_23_method_4_70) kz) ?_
      show OGo p.tables e below Φ (T1.setTop (mkF m 71 #[.val (.ref a), .val (.int x1), .val (.int x2)] [(.int (1 : Int32))]))
      refine OGo.st (fun _ kz => XS.goto X1.here hx rfl (pc0 := 71) (pc' := 104) rfl (hb hby d_prog_23_method_4_71) (by decide) (by decide) kz) ?_
      show OGo p.tables e below Φ (T1.setTop (mkF m 104 #[.val (.ref a), .val (.int x1), .val (.int x2)] [(.int (1 : Int32))]))
      refine OGo.fin X1 hlk (v := (some (.int (1 : Int32)))) (fun h => by rw [hret] at h; cases h) (by decide) (by decide) (fun fs hr => X1.ireturnOut hx hret rfl (by simp) (hb hby d_prog_23_method_4_104) hr) fun U eU hF => hΦ _ _ _ ?_ hF
      rw [eU, e1]
      show Q_rm2_1 Z a x1 x2 h0 n0 _ _ _
      exact ⟨by simp [own_ap1, hc2, hc3], N1, rfl⟩
  · refine OGo.st (fun _ kz => XS.ifYes X1.here hx rfl (pc0 := 63) (pc' := 70) rfl (hb hby d_prog_23_method_4_63) rfl (XT.i0_ne_t hc2) (by decide) (by decide) kz) ?_
    show OGo p.tables e below Φ (T1.setTop (mkF m 70 #[.val (.ref a), .val (.int x1), .val (.int x2)] []))
    refine OGo.st (fun _ kz => XS.iconst X1.here hx rfl (hb hby d_prog_23_method_4_70) kz) ?_
    show OGo p.tables e below Φ (T1.setTop (mkF m 71 #[.val (.ref a), .val (.int x1), .val (.int x2)] [(.int (1 : Int32))]))
    refine OGo.st (fun _ kz => XS.goto X1.here hx rfl (pc0 := 71) (pc' := 104) rfl (hb hby d_prog_23_method_4_71) (by decide) (by decide) kz) ?_
    show OGo p.tables e below Φ (T1.setTop (mkF m 104 #[.val (.ref a), .val (.int x1), .val (.int x2)] [(.int (1 : Int32))]))
    refine OGo.fin X1 hlk (v := (some (.int (1 : Int32)))) (fun h => by rw [hret] at h; cases h) (by decide) (by decide) (fun fs hr => X1.ireturnOut hx hret rfl (by simp) (hb hby d_prog_23_method_4_104) hr) fun U eU hF => hΦ _ _ _ ?_ hF
    rw [eU, e1]
    show Q_rm2_1 Z a x1 x2 h0 n0 _ _ _
    exact ⟨by simp [own_ap1, hc2], N1, rfl⟩

theorem d_prog_23_method_4_78 : decode prog_23_method_4_code 78 = .ok (.iload_n 1, 1) := by decide +kernel
theorem d_prog_23_method_4_79 : decode prog_23_method_4_code 79 = .ok (.ifCond .eq 7, 3) := by decide +kernel
theorem d_prog_23_method_4_86 : decode prog_23_method_4_code 86 = .ok (.iconst 1, 1) := by decide +kernel
theorem d_prog_23_method_4_87 : decode prog_23_method_4_code 87 = .ok (.goto 17, 3) := by decide +kernel
theorem d_prog_23_method_4_82 : decode prog_23_method_4_code 82 = .ok (.iload_n 2, 1) := by decide +kernel
theorem d_prog_23_method_4_83 : decode prog_23_method_4_code 83 = .ok (.ifCond .eq 7, 3) := by decide +kernel
theorem d_prog_23_method_4_90 : decode prog_23_method_4_code 90 = .ok (.iconst 0, 1) := by decide +kernel
theorem d_prog_23_method_4_91 : decode prog_23_method_4_code 91 = .ok (.goto 13, 3) := by decide +kernel
theorem ef_rm2_2 (m : MethodId) (x0 : Addr) (x1 : Int32) (x2 : Int32) : entryFrame m #[(.ref x0), (.int x1), (.int x2)] 3 = mkF m 0 #[.val (.ref x0), .val (.int x1), .val (.int x2)] [] := by first | (simp [entryFrame, mkF, argsToLocals, Value.category]; done) | rfl
def Q_rm2_2 (Z : State) (a : Addr) (x1 : Int32) (x2 : Int32) (h0 : Heap) (n0 : Nat) (v : Option Value) (h : Heap) (L : List Loc) : Prop := v = some (.int (own_ap2 x1 x2)) ∧ Fr n0 L ∧ h = h0
set_option maxRecDepth 65536 in
set_option maxHeartbeats 40000000 in
theorem rm2_2 (l : Launch) (Z : State) (a0 : Array Value) (hw : ∀ d ∈ tables_1, d.before a0 Z = true) (ws : List Jvm.Cond) (a : Addr) (x1 : Int32) (x2 : Int32) (h0 : Heap) (n0 : Nat) (Z0 : n0 ≤ h0.size) (F_a : Fld Z h0 a "java/lang/Enum" "ordinal" "I" (.int (2 : Int32))) (E_a : Exa Z h0 a "com/example/bowerbird/bowerbird/model/Formula$Connective$Op") :
    OCon l Z (⟨"com/example/bowerbird/bowerbird/model/Formula$Connective$Op", "apply", "(ZZ)Z"⟩ : MethodName) prog_23_method_4_code 3 (some .boolean) ws ({ frames := 1, cells := 0, slots := 0, locals := 12 } : Room) #[(.ref a), (.int x1), (.int x2)] h0 (Q_rm2_2 Z a x1 x2 h0 n0) := by
  refine OCon.of (plainFor_of_name pn1) ?_
  intro p e s m below meth c s₁ Φ X0 hx hby hml hown hnm hret hlk hZ e0 hΦ
  have N0 := Fr.nil n0
  refine OGo.st (fun _ kz => castTop (ef_rm2_2 m a x1 x2) kz) ?_
  show OGo p.tables e below Φ (s₁.setTop (mkF m 0 #[.val (.ref a), .val (.int x1), .val (.int x2)] []))
  refine OGo.st (fun _ kz => XS.aloadN X0.here hx rfl (hb hby d_prog_23_method_4_0) rfl rfl kz) ?_
  show OGo p.tables e below Φ (s₁.setTop (mkF m 1 #[.val (.ref a), .val (.int x1), .val (.int x2)] [(.ref a)]))
  obtain ⟨_, T1, L1, X1, hQ1, st1⟩ := own_callUp X0 hx hZ hown (ow18 hw) (ow19 hw) (ow20 hw) (by decide) (ow22 hw) (ow21 hw) (ow23 hw) (ow24 hw) (rm1 l Z a0 hw [] a (2 : Int32) h0 n0 Z0 F_a) e0 (W := 0) (by decide) (by decide) (by decide) (by decide) E_a (pc := 1) (ls := #[.val (.ref a), .val (.int x1), .val (.int x2)]) (stk := [(.ref a)]) (by rw [hml]; rfl) (argsL := []) (rest := []) (lenOf pd0 rfl) rfl rfl (Nat.le_of_eq rfl) (hb hby d_prog_23_method_4_1)
  obtain ⟨rfl, Nq1, e1⟩ := hQ1
  have N1 := Fr.app N0 Nq1
  refine OGo.st st1 ?_
  show OGo p.tables e below Φ (T1.setTop (mkF m 4 #[.val (.ref a), .val (.int x1), .val (.int x2)] [(.int (2 : Int32))]))
  refine OGo.st (fun _ kz => XS.tswIn X1.here hx rfl (o := 74) (pc0 := 4) (pc' := 78) rfl (hb hby d_prog_23_method_4_4) rfl (by decide) (by decide) (by decide) (by decide) kz) ?_
  show OGo p.tables e below Φ (T1.setTop (mkF m 78 #[.val (.ref a), .val (.int x1), .val (.int x2)] []))
  refine OGo.st (fun _ kz => XS.iloadN X1.here hx rfl (hb hby d_prog_23_method_4_78) rfl kz) ?_
  show OGo p.tables e below Φ (T1.setTop (mkF m 79 #[.val (.ref a), .val (.int x1), .val (.int x2)] [(.int x1)]))
  by_cases hc2 : x1 = 0
  · refine OGo.st (fun _ kz => XS.ifYes X1.here hx rfl (pc0 := 79) (pc' := 86) rfl (hb hby d_prog_23_method_4_79) rfl (XT.i0_eq_t hc2) (by decide) (by decide) kz) ?_
    show OGo p.tables e below Φ (T1.setTop (mkF m 86 #[.val (.ref a), .val (.int x1), .val (.int x2)] []))
    refine OGo.st (fun _ kz => XS.iconst X1.here hx rfl (hb hby d_prog_23_method_4_86) kz) ?_
    show OGo p.tables e below Φ (T1.setTop (mkF m 87 #[.val (.ref a), .val (.int x1), .val (.int x2)] [(.int (1 : Int32))]))
    refine OGo.st (fun _ kz => XS.goto X1.here hx rfl (pc0 := 87) (pc' := 104) rfl (hb hby d_prog_23_method_4_87) (by decide) (by decide) kz) ?_
    show OGo p.tables e below Φ (T1.setTop (mkF m 104 #[.val (.ref a), .val (.int x1), .val (.int x2)] [(.int (1 : Int32))]))
    refine OGo.fin X1 hlk (v := (some (.int (1 : Int32)))) (fun h => by rw [hret] at h; cases h) (by decide) (by decide) (fun fs hr => X1.ireturnOut hx hret rfl (by simp) (hb hby d_prog_23_method_4_104) hr) fun U eU hF => hΦ _ _ _ ?_ hF
    rw [eU, e1]
    show Q_rm2_2 Z a x1 x2 h0 n0 _ _ _
    exact ⟨by simp [own_ap2, hc2], N1, rfl⟩
  · refine OGo.st (fun _ kz => XS.ifNo X1.here hx rfl (hb hby d_prog_23_method_4_79) rfl (XT.i0_eq_f hc2) kz) ?_
    show OGo p.tables e below Φ (T1.setTop (mkF m 82 #[.val (.ref a), .val (.int x1), .val (.int x2)] []))
    refine OGo.st (fun _ kz => XS.iloadN X1.here hx rfl (hb hby d_prog_23_method_4_82) rfl kz) ?_
    show OGo p.tables e below Φ (T1.setTop (mkF m 83 #[.val (.ref a), .val (.int x1), .val (.int x2)] [(.int x2)]))
    by_cases hc3 : x2 = 0
    · refine OGo.st (fun _ kz => XS.ifYes X1.here hx rfl (pc0 := 83) (pc' := 90) rfl (hb hby d_prog_23_method_4_83) rfl (XT.i0_eq_t hc3) (by decide) (by decide) kz) ?_
      show OGo p.tables e below Φ (T1.setTop (mkF m 90 #[.val (.ref a), .val (.int x1), .val (.int x2)] []))
      refine OGo.st (fun _ kz => XS.iconst X1.here hx rfl (hb hby d_prog_23_method_4_90) kz) ?_
      show OGo p.tables e below Φ (T1.setTop (mkF m 91 #[.val (.ref a), .val (.int x1), .val (.int x2)] [(.int (0 : Int32))]))
      refine OGo.st (fun _ kz => XS.goto X1.here hx rfl (pc0 := 91) (pc' := 104) rfl (hb hby d_prog_23_method_4_91) (by decide) (by decide) kz) ?_
      show OGo p.tables e below Φ (T1.setTop (mkF m 104 #[.val (.ref a), .val (.int x1), .val (.int x2)] [(.int (0 : Int32))]))
      refine OGo.fin X1 hlk (v := (some (.int (0 : Int32)))) (fun h => by rw [hret] at h; cases h) (by decide) (by decide) (fun fs hr => X1.ireturnOut hx hret rfl (by simp) (hb hby d_prog_23_method_4_104) hr) fun U eU hF => hΦ _ _ _ ?_ hF
      rw [eU, e1]
      show Q_rm2_2 Z a x1 x2 h0 n0 _ _ _
      exact ⟨by simp [own_ap2, hc2, hc3], N1, rfl⟩
    · refine OGo.st (fun _ kz => XS.ifNo X1.here hx rfl (hb hby d_prog_23_method_4_83) rfl (XT.i0_eq_f hc3) kz) ?_
      show OGo p.tables e below Φ (T1.setTop (mkF m 86 #[.val (.ref a), .val (.int x1), .val (.int x2)] []))
      refine OGo.st (fun _ kz => XS.iconst X1.here hx rfl (hb hby d_prog_23_method_4_86) kz) ?_
      show OGo p.tables e below Φ (T1.setTop (mkF m 87 #[.val (.ref a), .val (.int x1), .val (.int x2)] [(.int (1 : Int32))]))
      refine OGo.st (fun _ kz => XS.goto X1.here hx rfl (pc0 := 87) (pc' := 104) rfl (hb hby d_prog_23_method_4_87) (by decide) (by decide) kz) ?_
      show OGo p.tables e below Φ (T1.setTop (mkF m 104 #[.val (.ref a), .val (.int x1), .val (.int x2)] [(.int (1 : Int32))]))
      refine OGo.fin X1 hlk (v := (some (.int (1 : Int32)))) (fun h => by rw [hret] at h; cases h) (by decide) (by decide) (fun fs hr => X1.ireturnOut hx hret rfl (by simp) (hb hby d_prog_23_method_4_104) hr) fun U eU hF => hΦ _ _ _ ?_ hF
      rw [eU, e1]
      show Q_rm2_2 Z a x1 x2 h0 n0 _ _ _
      exact ⟨by simp [own_ap2, hc2, hc3], N1, rfl⟩

theorem d_prog_23_method_4_94 : decode prog_23_method_4_code 94 = .ok (.iload_n 1, 1) := by decide +kernel
theorem d_prog_23_method_4_95 : decode prog_23_method_4_code 95 = .ok (.iload_n 2, 1) := by decide +kernel
theorem d_prog_23_method_4_96 : decode prog_23_method_4_code 96 = .ok (.if_icmp .ne 7, 3) := by decide +kernel
theorem d_prog_23_method_4_99 : decode prog_23_method_4_code 99 = .ok (.iconst 1, 1) := by decide +kernel
theorem d_prog_23_method_4_100 : decode prog_23_method_4_code 100 = .ok (.goto 4, 3) := by decide +kernel
theorem d_prog_23_method_4_103 : decode prog_23_method_4_code 103 = .ok (.iconst 0, 1) := by decide +kernel
theorem ef_rm2_3 (m : MethodId) (x0 : Addr) (x1 : Int32) (x2 : Int32) : entryFrame m #[(.ref x0), (.int x1), (.int x2)] 3 = mkF m 0 #[.val (.ref x0), .val (.int x1), .val (.int x2)] [] := by first | (simp [entryFrame, mkF, argsToLocals, Value.category]; done) | rfl
def Q_rm2_3 (Z : State) (a : Addr) (x1 : Int32) (x2 : Int32) (h0 : Heap) (n0 : Nat) (v : Option Value) (h : Heap) (L : List Loc) : Prop := v = some (.int (own_ap3 x1 x2)) ∧ Fr n0 L ∧ h = h0
set_option maxRecDepth 65536 in
set_option maxHeartbeats 40000000 in
theorem rm2_3 (l : Launch) (Z : State) (a0 : Array Value) (hw : ∀ d ∈ tables_1, d.before a0 Z = true) (ws : List Jvm.Cond) (a : Addr) (x1 : Int32) (x2 : Int32) (h0 : Heap) (n0 : Nat) (Z0 : n0 ≤ h0.size) (F_a : Fld Z h0 a "java/lang/Enum" "ordinal" "I" (.int (3 : Int32))) (E_a : Exa Z h0 a "com/example/bowerbird/bowerbird/model/Formula$Connective$Op") :
    OCon l Z (⟨"com/example/bowerbird/bowerbird/model/Formula$Connective$Op", "apply", "(ZZ)Z"⟩ : MethodName) prog_23_method_4_code 3 (some .boolean) ws ({ frames := 1, cells := 0, slots := 0, locals := 12 } : Room) #[(.ref a), (.int x1), (.int x2)] h0 (Q_rm2_3 Z a x1 x2 h0 n0) := by
  refine OCon.of (plainFor_of_name pn1) ?_
  intro p e s m below meth c s₁ Φ X0 hx hby hml hown hnm hret hlk hZ e0 hΦ
  have N0 := Fr.nil n0
  refine OGo.st (fun _ kz => castTop (ef_rm2_3 m a x1 x2) kz) ?_
  show OGo p.tables e below Φ (s₁.setTop (mkF m 0 #[.val (.ref a), .val (.int x1), .val (.int x2)] []))
  refine OGo.st (fun _ kz => XS.aloadN X0.here hx rfl (hb hby d_prog_23_method_4_0) rfl rfl kz) ?_
  show OGo p.tables e below Φ (s₁.setTop (mkF m 1 #[.val (.ref a), .val (.int x1), .val (.int x2)] [(.ref a)]))
  obtain ⟨_, T1, L1, X1, hQ1, st1⟩ := own_callUp X0 hx hZ hown (ow18 hw) (ow19 hw) (ow20 hw) (by decide) (ow22 hw) (ow21 hw) (ow23 hw) (ow24 hw) (rm1 l Z a0 hw [] a (3 : Int32) h0 n0 Z0 F_a) e0 (W := 0) (by decide) (by decide) (by decide) (by decide) E_a (pc := 1) (ls := #[.val (.ref a), .val (.int x1), .val (.int x2)]) (stk := [(.ref a)]) (by rw [hml]; rfl) (argsL := []) (rest := []) (lenOf pd0 rfl) rfl rfl (Nat.le_of_eq rfl) (hb hby d_prog_23_method_4_1)
  obtain ⟨rfl, Nq1, e1⟩ := hQ1
  have N1 := Fr.app N0 Nq1
  refine OGo.st st1 ?_
  show OGo p.tables e below Φ (T1.setTop (mkF m 4 #[.val (.ref a), .val (.int x1), .val (.int x2)] [(.int (3 : Int32))]))
  refine OGo.st (fun _ kz => XS.tswIn X1.here hx rfl (o := 90) (pc0 := 4) (pc' := 94) rfl (hb hby d_prog_23_method_4_4) rfl (by decide) (by decide) (by decide) (by decide) kz) ?_
  show OGo p.tables e below Φ (T1.setTop (mkF m 94 #[.val (.ref a), .val (.int x1), .val (.int x2)] []))
  refine OGo.st (fun _ kz => XS.iloadN X1.here hx rfl (hb hby d_prog_23_method_4_94) rfl kz) ?_
  show OGo p.tables e below Φ (T1.setTop (mkF m 95 #[.val (.ref a), .val (.int x1), .val (.int x2)] [(.int x1)]))
  refine OGo.st (fun _ kz => XS.iloadN X1.here hx rfl (hb hby d_prog_23_method_4_95) rfl kz) ?_
  show OGo p.tables e below Φ (T1.setTop (mkF m 96 #[.val (.ref a), .val (.int x1), .val (.int x2)] [(.int x2), (.int x1)]))
  by_cases hc2 : x1 = x2
  · refine OGo.st (fun _ kz => XS.icmpNo X1.here hx rfl (hb hby d_prog_23_method_4_96) rfl (XT.ii_ne_f hc2) kz) ?_
    show OGo p.tables e below Φ (T1.setTop (mkF m 99 #[.val (.ref a), .val (.int x1), .val (.int x2)] []))
    refine OGo.st (fun _ kz => XS.iconst X1.here hx rfl (hb hby d_prog_23_method_4_99) kz) ?_
    show OGo p.tables e below Φ (T1.setTop (mkF m 100 #[.val (.ref a), .val (.int x1), .val (.int x2)] [(.int (1 : Int32))]))
    refine OGo.st (fun _ kz => XS.goto X1.here hx rfl (pc0 := 100) (pc' := 104) rfl (hb hby d_prog_23_method_4_100) (by decide) (by decide) kz) ?_
    show OGo p.tables e below Φ (T1.setTop (mkF m 104 #[.val (.ref a), .val (.int x1), .val (.int x2)] [(.int (1 : Int32))]))
    refine OGo.fin X1 hlk (v := (some (.int (1 : Int32)))) (fun h => by rw [hret] at h; cases h) (by decide) (by decide) (fun fs hr => X1.ireturnOut hx hret rfl (by simp) (hb hby d_prog_23_method_4_104) hr) fun U eU hF => hΦ _ _ _ ?_ hF
    rw [eU, e1]
    show Q_rm2_3 Z a x1 x2 h0 n0 _ _ _
    exact ⟨by simp [own_ap3, hc2], N1, rfl⟩
  · refine OGo.st (fun _ kz => XS.icmpYes X1.here hx rfl (pc0 := 96) (pc' := 103) rfl (hb hby d_prog_23_method_4_96) rfl (XT.ii_ne_t hc2) (by decide) (by decide) kz) ?_
    show OGo p.tables e below Φ (T1.setTop (mkF m 103 #[.val (.ref a), .val (.int x1), .val (.int x2)] []))
    refine OGo.st (fun _ kz => XS.iconst X1.here hx rfl (hb hby d_prog_23_method_4_103) kz) ?_
    show OGo p.tables e below Φ (T1.setTop (mkF m 104 #[.val (.ref a), .val (.int x1), .val (.int x2)] [(.int (0 : Int32))]))
    refine OGo.fin X1 hlk (v := (some (.int (0 : Int32)))) (fun h => by rw [hret] at h; cases h) (by decide) (by decide) (fun fs hr => X1.ireturnOut hx hret rfl (by simp) (hb hby d_prog_23_method_4_104) hr) fun U eU hF => hΦ _ _ _ ?_ hF
    rw [eU, e1]
    show Q_rm2_3 Z a x1 x2 h0 n0 _ _ _
    exact ⟨by simp [own_ap3, hc2], N1, rfl⟩

theorem pn2 : plainName "com/example/bowerbird/bowerbird/model/OpApplyPinLaw" = true := by first | (simp [plainName, overriddenIn]; done) | decide +kernel
theorem pd1 : parseMethodDescriptor "(ZZ)Z" = some ⟨[.boolean, .boolean], some .boolean⟩ := by decide +kernel
theorem ef_rm0 (m : MethodId) (x0 : Int32) (x1 : Int32) (x2 : Int32) : entryFrame m #[(.int x0), (.int x1), (.int x2)] maxLocals = mkF m 0 #[.val (.int x0), .val (.int x1), .val (.int x2), .unset, .unset, .unset, .unset, .unset, .unset, .unset] [] := by first | (simp [entryFrame, mkF, argsToLocals, Value.category, maxLocals]; done) | rfl
def Q_rm0 (Z : State) (xk : Int32) (xa : Int32) (xb : Int32) (a0_ : Addr) (a1_ : Addr) (a2_ : Addr) (a3_ : Addr) (h0 : Heap) (n0 : Nat) (v : Option Value) (h : Heap) (L : List Loc) : Prop := v = some (.int (1 : Int32)) ∧ Fr n0 L
set_option maxRecDepth 65536 in
set_option maxHeartbeats 40000000 in
theorem rm0 (l : Launch) (Z : State) (a0 : Array Value) (hw : ∀ d ∈ tables_1, d.before a0 Z = true) (ws : List Jvm.Cond) (xk : Int32) (xa : Int32) (xb : Int32) (a0_ : Addr) (a1_ : Addr) (a2_ : Addr) (a3_ : Addr) (h0 : Heap) (n0 : Nat) (Z0 : n0 ≤ h0.size) (S_0 : Sta Z h0 "com/example/bowerbird/bowerbird/model/Formula$Connective$Op" "AND" "Lcom/example/bowerbird/bowerbird/model/Formula$Connective$Op;" (.ref a0_)) (E_0 : Exa Z h0 a0_ "com/example/bowerbird/bowerbird/model/Formula$Connective$Op") (F_0 : Fld Z h0 a0_ "java/lang/Enum" "ordinal" "I" (.int (0 : Int32))) (S_1 : Sta Z h0 "com/example/bowerbird/bowerbird/model/Formula$Connective$Op" "OR" "Lcom/example/bowerbird/bowerbird/model/Formula$Connective$Op;" (.ref a1_)) (E_1 : Exa Z h0 a1_ "com/example/bowerbird/bowerbird/model/Formula$Connective$Op") (F_1 : Fld Z h0 a1_ "java/lang/Enum" "ordinal" "I" (.int (1 : Int32))) (S_2 : Sta Z h0 "com/example/bowerbird/bowerbird/model/Formula$Connective$Op" "IMPLIES" "Lcom/example/bowerbird/bowerbird/model/Formula$Connective$Op;" (.ref a2_)) (E_2 : Exa Z h0 a2_ "com/example/bowerbird/bowerbird/model/Formula$Connective$Op") (F_2 : Fld Z h0 a2_ "java/lang/Enum" "ordinal" "I" (.int (2 : Int32))) (S_3 : Sta Z h0 "com/example/bowerbird/bowerbird/model/Formula$Connective$Op" "IFF" "Lcom/example/bowerbird/bowerbird/model/Formula$Connective$Op;" (.ref a3_)) (E_3 : Exa Z h0 a3_ "com/example/bowerbird/bowerbird/model/Formula$Connective$Op") (F_3 : Fld Z h0 a3_ "java/lang/Enum" "ordinal" "I" (.int (3 : Int32))) :
    OCon l Z x code maxLocals ret ws room_1 #[(.int xk), (.int xa), (.int xb)] h0 (Q_rm0 Z xk xa xb a0_ a1_ a2_ a3_ h0 n0) := by
  refine OCon.of (plainFor_of_name pn2) ?_
  intro p e s m below meth c s₁ Φ X0 hx hby hml hown hnm hret hlk hZ e0 hΦ
  have N0 := Fr.nil n0
  refine OGo.st (fun _ kz => castTop (ef_rm0 m xk xa xb) kz) ?_
  show OGo p.tables e below Φ (s₁.setTop (mkF m 0 #[.val (.int xk), .val (.int xa), .val (.int xb), .unset, .unset, .unset, .unset, .unset, .unset, .unset] []))
  refine OGo.st (fun _ kz => XS.iconst X0.here hx rfl (hb hby at_0) kz) ?_
  show OGo p.tables e below Φ (s₁.setTop (mkF m 1 #[.val (.int xk), .val (.int xa), .val (.int xb), .unset, .unset, .unset, .unset, .unset, .unset, .unset] [(.int (4 : Int32))]))
  obtain ⟨T1, h1, c1, X1, e1, E1, Ar1, Ex1, Ov1, st1⟩ := newRE X0 hx hZ hown (ow0 hw) (ow1 hw) e0 (g := (mkF m 1 #[.val (.int xk), .val (.int xa), .val (.int xb), .unset, .unset, .unset, .unset, .unset, .unset, .unset] [(.int (4 : Int32))])) rfl (hb hby at_1) rfl (by decide) (cap := 4) (by decide) (by decide) (by decide) (by decide) (ad := "[Lcom/example/bowerbird/bowerbird/model/Formula$Connective$Op;") (by decide)
  obtain ⟨b1, g1⟩ : ∃ z, z = h0.size := ⟨_, rfl⟩
  rw [← g1] at Ar1 Ex1 st1
  have ne1_a0_ : a0_ ≠ b1 := by rw [g1]; exact Nat.ne_of_lt E_0.lt
  have ne1_a1_ : a1_ ≠ b1 := by rw [g1]; exact Nat.ne_of_lt E_1.lt
  have ne1_a2_ : a2_ ≠ b1 := by rw [g1]; exact Nat.ne_of_lt E_2.lt
  have ne1_a3_ : a3_ ≠ b1 := by rw [g1]; exact Nat.ne_of_lt E_3.lt
  have F2 := S_0.ext E1
  have F3 := E_0.ext E1
  have F4 := F_0.ext E1
  have F5 := S_1.ext E1
  have F6 := E_1.ext E1
  have F7 := F_1.ext E1
  have F8 := S_2.ext E1
  have F9 := E_2.ext E1
  have F10 := F_2.ext E1
  have F11 := S_3.ext E1
  have F12 := E_3.ext E1
  have F13 := F_3.ext E1
  have gb1 : n0 ≤ b1 := Nat.le_trans Z0 (Nat.le_of_eq g1.symm)
  have Zs1 : n0 ≤ h1.size := Nat.le_trans Z0 E1.1
  have V1 : Arv Z h1 b1 c1 (.object "com/example/bowerbird/bowerbird/model/Formula$Connective$Op") (4 : Int32) [.null, .null, .null, .null] .null := (Arv.new Ar1 (by decide)).pad (pad_rep [] _ 4)
  refine OGo.st st1 ?_
  show OGo p.tables e below Φ (T1.setTop (mkF m 4 #[.val (.int xk), .val (.int xa), .val (.int xb), .unset, .unset, .unset, .unset, .unset, .unset, .unset] [(.ref b1)]))
  refine OGo.st (fun _ kz => XS.dup X1.here hx rfl (hb hby at_4) rfl rfl kz) ?_
  show OGo p.tables e below Φ (T1.setTop (mkF m 5 #[.val (.int xk), .val (.int xa), .val (.int xb), .unset, .unset, .unset, .unset, .unset, .unset, .unset] [(.ref b1), (.ref b1)]))
  refine OGo.st (fun _ kz => XS.iconst X1.here hx rfl (hb hby at_5) kz) ?_
  show OGo p.tables e below Φ (T1.setTop (mkF m 6 #[.val (.int xk), .val (.int xa), .val (.int xb), .unset, .unset, .unset, .unset, .unset, .unset, .unset] [(.int (0 : Int32)), (.ref b1), (.ref b1)]))
  obtain ⟨T14, X14, e14, st14⟩ := getS2 X1 hx hZ hown (host := "") (Or.inl (ow2 hw)) Via.refl e1 F2 (g := (mkF m 6 #[.val (.int xk), .val (.int xa), .val (.int xb), .unset, .unset, .unset, .unset, .unset, .unset, .unset] [(.int (0 : Int32)), (.ref b1), (.ref b1)])) rfl (hb hby at_6)
  refine OGo.st st14 ?_
  show OGo p.tables e below Φ (T14.setTop (mkF m 9 #[.val (.int xk), .val (.int xa), .val (.int xb), .unset, .unset, .unset, .unset, .unset, .unset, .unset] [(.ref a0_), (.int (0 : Int32)), (.ref b1), (.ref b1)]))
  obtain ⟨cl15, Aq15, Cq15, S15, M15, H15, G15⟩ := id V1
  have in15 : ¬ ((0 : Int32) < 0 ∨ cl15.slots.size ≤ (0 : Int32).toNatClampNeg) := inb_of S15 ⟨by decide, by decide⟩
  obtain ⟨T15, h15, X15, e15, W15, st15⟩ := stR X14 hx hZ e14 Aq15 in15 rfl (Sto.ofV Aq15 Cq15 Ov1 (Ins.self F3)) (g := (mkF m 9 #[.val (.int xk), .val (.int xa), .val (.int xb), .unset, .unset, .unset, .unset, .unset, .unset, .unset] [(.ref a0_), (.int (0 : Int32)), (.ref b1), (.ref b1)])) rfl rfl (hb hby at_9)
  have F16 := F2.wr W15
  have F17 := F3.wr W15
  have F18 := F4.other W15 (Or.inl ne1_a0_)
  have F19 := F5.wr W15
  have F20 := F6.wr W15
  have F21 := F7.other W15 (Or.inl ne1_a1_)
  have F22 := F8.wr W15
  have F23 := F9.wr W15
  have F24 := F10.other W15 (Or.inl ne1_a2_)
  have F25 := F11.wr W15
  have F26 := F12.wr W15
  have F27 := F13.other W15 (Or.inl ne1_a3_)
  have F28 := Ex1.wr W15
  have V15 : Arv Z h15 b1 c1 (.object "com/example/bowerbird/bowerbird/model/Formula$Connective$Op") (4 : Int32) [(.ref a0_), .null, .null, .null] .null := Arv.set Aq15 Cq15 S15 M15 H15 G15 rfl W15 0 (by decide) (by show 0 < 4; decide)
  have N15 := Fr.snoc X15 N0 gb1
  have Zs15 : n0 ≤ h15.size := by rw [W15.size]; exact Zs1
  refine OGo.st st15 ?_
  show OGo p.tables e below Φ (T15.setTop (mkF m 10 #[.val (.int xk), .val (.int xa), .val (.int xb), .unset, .unset, .unset, .unset, .unset, .unset, .unset] [(.ref b1)]))
  refine OGo.st (fun _ kz => XS.dup X15.here hx rfl (hb hby at_10) rfl rfl kz) ?_
  show OGo p.tables e below Φ (T15.setTop (mkF m 11 #[.val (.int xk), .val (.int xa), .val (.int xb), .unset, .unset, .unset, .unset, .unset, .unset, .unset] [(.ref b1), (.ref b1)]))
  refine OGo.st (fun _ kz => XS.iconst X15.here hx rfl (hb hby at_11) kz) ?_
  show OGo p.tables e below Φ (T15.setTop (mkF m 12 #[.val (.int xk), .val (.int xa), .val (.int xb), .unset, .unset, .unset, .unset, .unset, .unset, .unset] [(.int (1 : Int32)), (.ref b1), (.ref b1)]))
  obtain ⟨T29, X29, e29, st29⟩ := getS2 X15 hx hZ hown (host := "") (Or.inl (ow6 hw)) Via.refl e15 F19 (g := (mkF m 12 #[.val (.int xk), .val (.int xa), .val (.int xb), .unset, .unset, .unset, .unset, .unset, .unset, .unset] [(.int (1 : Int32)), (.ref b1), (.ref b1)])) rfl (hb hby at_12)
  refine OGo.st st29 ?_
  show OGo p.tables e below Φ (T29.setTop (mkF m 15 #[.val (.int xk), .val (.int xa), .val (.int xb), .unset, .unset, .unset, .unset, .unset, .unset, .unset] [(.ref a1_), (.int (1 : Int32)), (.ref b1), (.ref b1)]))
  obtain ⟨cl30, Aq30, Cq30, S30, M30, H30, G30⟩ := id V15
  have in30 : ¬ ((1 : Int32) < 0 ∨ cl30.slots.size ≤ (1 : Int32).toNatClampNeg) := inb_of S30 ⟨by decide, by decide⟩
  obtain ⟨T30, h30, X30, e30, W30, st30⟩ := stR X29 hx hZ e29 Aq30 in30 rfl (Sto.ofV Aq30 Cq30 Ov1 (Ins.self F20)) (g := (mkF m 15 #[.val (.int xk), .val (.int xa), .val (.int xb), .unset, .unset, .unset, .unset, .unset, .unset, .unset] [(.ref a1_), (.int (1 : Int32)), (.ref b1), (.ref b1)])) rfl rfl (hb hby at_15)
  have F31 := F16.wr W30
  have F32 := F17.wr W30
  have F33 := F18.other W30 (Or.inl ne1_a0_)
  have F34 := F19.wr W30
  have F35 := F20.wr W30
  have F36 := F21.other W30 (Or.inl ne1_a1_)
  have F37 := F22.wr W30
  have F38 := F23.wr W30
  have F39 := F24.other W30 (Or.inl ne1_a2_)
  have F40 := F25.wr W30
  have F41 := F26.wr W30
  have F42 := F27.other W30 (Or.inl ne1_a3_)
  have F43 := F28.wr W30
  have V30 : Arv Z h30 b1 c1 (.object "com/example/bowerbird/bowerbird/model/Formula$Connective$Op") (4 : Int32) [(.ref a0_), (.ref a1_), .null, .null] .null := Arv.set Aq30 Cq30 S30 M30 H30 G30 rfl W30 1 (by decide) (by show 1 < 4; decide)
  have N30 := Fr.snoc X30 N15 gb1
  have Zs30 : n0 ≤ h30.size := by rw [W30.size]; exact Zs15
  refine OGo.st st30 ?_
  show OGo p.tables e below Φ (T30.setTop (mkF m 16 #[.val (.int xk), .val (.int xa), .val (.int xb), .unset, .unset, .unset, .unset, .unset, .unset, .unset] [(.ref b1)]))
  refine OGo.st (fun _ kz => XS.dup X30.here hx rfl (hb hby at_16) rfl rfl kz) ?_
  show OGo p.tables e below Φ (T30.setTop (mkF m 17 #[.val (.int xk), .val (.int xa), .val (.int xb), .unset, .unset, .unset, .unset, .unset, .unset, .unset] [(.ref b1), (.ref b1)]))
  refine OGo.st (fun _ kz => XS.iconst X30.here hx rfl (hb hby at_17) kz) ?_
  show OGo p.tables e below Φ (T30.setTop (mkF m 18 #[.val (.int xk), .val (.int xa), .val (.int xb), .unset, .unset, .unset, .unset, .unset, .unset, .unset] [(.int (2 : Int32)), (.ref b1), (.ref b1)]))
  obtain ⟨T44, X44, e44, st44⟩ := getS2 X30 hx hZ hown (host := "") (Or.inl (ow8 hw)) Via.refl e30 F37 (g := (mkF m 18 #[.val (.int xk), .val (.int xa), .val (.int xb), .unset, .unset, .unset, .unset, .unset, .unset, .unset] [(.int (2 : Int32)), (.ref b1), (.ref b1)])) rfl (hb hby at_18)
  refine OGo.st st44 ?_
  show OGo p.tables e below Φ (T44.setTop (mkF m 21 #[.val (.int xk), .val (.int xa), .val (.int xb), .unset, .unset, .unset, .unset, .unset, .unset, .unset] [(.ref a2_), (.int (2 : Int32)), (.ref b1), (.ref b1)]))
  obtain ⟨cl45, Aq45, Cq45, S45, M45, H45, G45⟩ := id V30
  have in45 : ¬ ((2 : Int32) < 0 ∨ cl45.slots.size ≤ (2 : Int32).toNatClampNeg) := inb_of S45 ⟨by decide, by decide⟩
  obtain ⟨T45, h45, X45, e45, W45, st45⟩ := stR X44 hx hZ e44 Aq45 in45 rfl (Sto.ofV Aq45 Cq45 Ov1 (Ins.self F38)) (g := (mkF m 21 #[.val (.int xk), .val (.int xa), .val (.int xb), .unset, .unset, .unset, .unset, .unset, .unset, .unset] [(.ref a2_), (.int (2 : Int32)), (.ref b1), (.ref b1)])) rfl rfl (hb hby at_21)
  have F46 := F31.wr W45
  have F47 := F32.wr W45
  have F48 := F33.other W45 (Or.inl ne1_a0_)
  have F49 := F34.wr W45
  have F50 := F35.wr W45
  have F51 := F36.other W45 (Or.inl ne1_a1_)
  have F52 := F37.wr W45
  have F53 := F38.wr W45
  have F54 := F39.other W45 (Or.inl ne1_a2_)
  have F55 := F40.wr W45
  have F56 := F41.wr W45
  have F57 := F42.other W45 (Or.inl ne1_a3_)
  have F58 := F43.wr W45
  have V45 : Arv Z h45 b1 c1 (.object "com/example/bowerbird/bowerbird/model/Formula$Connective$Op") (4 : Int32) [(.ref a0_), (.ref a1_), (.ref a2_), .null] .null := Arv.set Aq45 Cq45 S45 M45 H45 G45 rfl W45 2 (by decide) (by show 2 < 4; decide)
  have N45 := Fr.snoc X45 N30 gb1
  have Zs45 : n0 ≤ h45.size := by rw [W45.size]; exact Zs30
  refine OGo.st st45 ?_
  show OGo p.tables e below Φ (T45.setTop (mkF m 22 #[.val (.int xk), .val (.int xa), .val (.int xb), .unset, .unset, .unset, .unset, .unset, .unset, .unset] [(.ref b1)]))
  refine OGo.st (fun _ kz => XS.dup X45.here hx rfl (hb hby at_22) rfl rfl kz) ?_
  show OGo p.tables e below Φ (T45.setTop (mkF m 23 #[.val (.int xk), .val (.int xa), .val (.int xb), .unset, .unset, .unset, .unset, .unset, .unset, .unset] [(.ref b1), (.ref b1)]))
  refine OGo.st (fun _ kz => XS.iconst X45.here hx rfl (hb hby at_23) kz) ?_
  show OGo p.tables e below Φ (T45.setTop (mkF m 24 #[.val (.int xk), .val (.int xa), .val (.int xb), .unset, .unset, .unset, .unset, .unset, .unset, .unset] [(.int (3 : Int32)), (.ref b1), (.ref b1)]))
  obtain ⟨T59, X59, e59, st59⟩ := getS2 X45 hx hZ hown (host := "") (Or.inl (ow10 hw)) Via.refl e45 F55 (g := (mkF m 24 #[.val (.int xk), .val (.int xa), .val (.int xb), .unset, .unset, .unset, .unset, .unset, .unset, .unset] [(.int (3 : Int32)), (.ref b1), (.ref b1)])) rfl (hb hby at_24)
  refine OGo.st st59 ?_
  show OGo p.tables e below Φ (T59.setTop (mkF m 27 #[.val (.int xk), .val (.int xa), .val (.int xb), .unset, .unset, .unset, .unset, .unset, .unset, .unset] [(.ref a3_), (.int (3 : Int32)), (.ref b1), (.ref b1)]))
  obtain ⟨cl60, Aq60, Cq60, S60, M60, H60, G60⟩ := id V45
  have in60 : ¬ ((3 : Int32) < 0 ∨ cl60.slots.size ≤ (3 : Int32).toNatClampNeg) := inb_of S60 ⟨by decide, by decide⟩
  obtain ⟨T60, h60, X60, e60, W60, st60⟩ := stR X59 hx hZ e59 Aq60 in60 rfl (Sto.ofV Aq60 Cq60 Ov1 (Ins.self F56)) (g := (mkF m 27 #[.val (.int xk), .val (.int xa), .val (.int xb), .unset, .unset, .unset, .unset, .unset, .unset, .unset] [(.ref a3_), (.int (3 : Int32)), (.ref b1), (.ref b1)])) rfl rfl (hb hby at_27)
  have F61 := F46.wr W60
  have F62 := F47.wr W60
  have F63 := F48.other W60 (Or.inl ne1_a0_)
  have F64 := F49.wr W60
  have F65 := F50.wr W60
  have F66 := F51.other W60 (Or.inl ne1_a1_)
  have F67 := F52.wr W60
  have F68 := F53.wr W60
  have F69 := F54.other W60 (Or.inl ne1_a2_)
  have F70 := F55.wr W60
  have F71 := F56.wr W60
  have F72 := F57.other W60 (Or.inl ne1_a3_)
  have F73 := F58.wr W60
  have V60 : Arv Z h60 b1 c1 (.object "com/example/bowerbird/bowerbird/model/Formula$Connective$Op") (4 : Int32) [(.ref a0_), (.ref a1_), (.ref a2_), (.ref a3_)] .null := Arv.set Aq60 Cq60 S60 M60 H60 G60 rfl W60 3 (by decide) (by show 3 < 4; decide)
  have N60 := Fr.snoc X60 N45 gb1
  have Zs60 : n0 ≤ h60.size := by rw [W60.size]; exact Zs45
  refine OGo.st st60 ?_
  show OGo p.tables e below Φ (T60.setTop (mkF m 28 #[.val (.int xk), .val (.int xa), .val (.int xb), .unset, .unset, .unset, .unset, .unset, .unset, .unset] [(.ref b1)]))
  refine OGo.st (fun _ kz => XS.astoreN X60.here hx rfl (hb hby at_28) rfl rfl (l' := #[.val (.int xk), .val (.int xa), .val (.int xb), .val (.ref b1), .unset, .unset, .unset, .unset, .unset, .unset]) rfl kz) ?_
  show OGo p.tables e below Φ (T60.setTop (mkF m 29 #[.val (.int xk), .val (.int xa), .val (.int xb), .val (.ref b1), .unset, .unset, .unset, .unset, .unset, .unset] []))
  refine OGo.st (fun _ kz => XS.iconst X60.here hx rfl (hb hby at_29) kz) ?_
  show OGo p.tables e below Φ (T60.setTop (mkF m 30 #[.val (.int xk), .val (.int xa), .val (.int xb), .val (.ref b1), .unset, .unset, .unset, .unset, .unset, .unset] [(.int (4 : Int32))]))
  obtain ⟨T74, h74, c74, X74, e74, E74, Ar74, st74⟩ := newP (aty := .int) X60 hx hZ (ow12 hw) e60 (g := (mkF m 30 #[.val (.int xk), .val (.int xa), .val (.int xb), .val (.ref b1), .unset, .unset, .unset, .unset, .unset, .unset] [(.int (4 : Int32))])) rfl (hb hby at_30) rfl (by decide) (cap := 4) (by decide) (by decide) (by decide) (by decide)
  obtain ⟨b74, g74⟩ : ∃ z, z = h60.size := ⟨_, rfl⟩
  rw [← g74] at Ar74 st74
  have ne74_a0_ : a0_ ≠ b74 := by rw [g74]; exact Nat.ne_of_lt F62.lt
  have ne74_a1_ : a1_ ≠ b74 := by rw [g74]; exact Nat.ne_of_lt F65.lt
  have ne74_a2_ : a2_ ≠ b74 := by rw [g74]; exact Nat.ne_of_lt F68.lt
  have ne74_a3_ : a3_ ≠ b74 := by rw [g74]; exact Nat.ne_of_lt F71.lt
  have ne74_b1 : b1 ≠ b74 := by rw [g74]; exact Nat.ne_of_lt F73.lt
  have F75 := F61.ext E74
  have F76 := F62.ext E74
  have F77 := F63.ext E74
  have F78 := F64.ext E74
  have F79 := F65.ext E74
  have F80 := F66.ext E74
  have F81 := F67.ext E74
  have F82 := F68.ext E74
  have F83 := F69.ext E74
  have F84 := F70.ext E74
  have F85 := F71.ext E74
  have F86 := F72.ext E74
  have F87 := F73.ext E74
  have F88 := V60.ext E74
  have gb74 : n0 ≤ b74 := Nat.le_trans Zs60 (Nat.le_of_eq g74.symm)
  have Zs74 : n0 ≤ h74.size := Nat.le_trans Zs60 E74.1
  have V74 : Arv Z h74 b74 c74 .int (4 : Int32) [(.int (0 : Int32)), (.int (0 : Int32)), (.int (0 : Int32)), (.int (0 : Int32))] (.int (0 : Int32)) := (Arv.new Ar74 (by decide)).pad (pad_rep [] _ 4)
  refine OGo.st st74 ?_
  show OGo p.tables e below Φ (T74.setTop (mkF m 32 #[.val (.int xk), .val (.int xa), .val (.int xb), .val (.ref b1), .unset, .unset, .unset, .unset, .unset, .unset] [(.ref b74)]))
  refine OGo.st (fun _ kz => XS.dup X74.here hx rfl (hb hby at_32) rfl rfl kz) ?_
  show OGo p.tables e below Φ (T74.setTop (mkF m 33 #[.val (.int xk), .val (.int xa), .val (.int xb), .val (.ref b1), .unset, .unset, .unset, .unset, .unset, .unset] [(.ref b74), (.ref b74)]))
  refine OGo.st (fun _ kz => XS.iconst X74.here hx rfl (hb hby at_33) kz) ?_
  show OGo p.tables e below Φ (T74.setTop (mkF m 34 #[.val (.int xk), .val (.int xa), .val (.int xb), .val (.ref b1), .unset, .unset, .unset, .unset, .unset, .unset] [(.int (0 : Int32)), (.ref b74), (.ref b74)]))
  refine OGo.st (fun _ kz => XS.bipush X74.here hx rfl (hb hby at_34) kz) ?_
  show OGo p.tables e below Φ (T74.setTop (mkF m 36 #[.val (.int xk), .val (.int xa), .val (.int xb), .val (.ref b1), .unset, .unset, .unset, .unset, .unset, .unset] [(.int (8 : Int32)), (.int (0 : Int32)), (.ref b74), (.ref b74)]))
  obtain ⟨cl89, Aq89, Cq89, S89, M89, H89, G89⟩ := id V74
  have in89 : ¬ ((0 : Int32) < 0 ∨ cl89.slots.size ≤ (0 : Int32).toNatClampNeg) := inb_of S89 ⟨by decide, by decide⟩
  obtain ⟨T89, h89, X89, e89, W89, st89⟩ := stI X74 hx hZ e74 Aq89 in89 (g := (mkF m 36 #[.val (.int xk), .val (.int xa), .val (.int xb), .val (.ref b1), .unset, .unset, .unset, .unset, .unset, .unset] [(.int (8 : Int32)), (.int (0 : Int32)), (.ref b74), (.ref b74)])) rfl rfl (hb hby at_36)
  have F90 := F75.wr W89
  have F91 := F76.wr W89
  have F92 := F77.other W89 (Or.inl ne74_a0_)
  have F93 := F78.wr W89
  have F94 := F79.wr W89
  have F95 := F80.other W89 (Or.inl ne74_a1_)
  have F96 := F81.wr W89
  have F97 := F82.wr W89
  have F98 := F83.other W89 (Or.inl ne74_a2_)
  have F99 := F84.wr W89
  have F100 := F85.wr W89
  have F101 := F86.other W89 (Or.inl ne74_a3_)
  have F102 := F87.wr W89
  have F103 := F88.other W89 ne74_b1
  have V89 : Arv Z h89 b74 c74 .int (4 : Int32) [(.int (8 : Int32)), (.int (0 : Int32)), (.int (0 : Int32)), (.int (0 : Int32))] (.int (0 : Int32)) := Arv.set Aq89 Cq89 S89 M89 H89 G89 rfl W89 0 (by decide) (by show 0 < 4; decide)
  have N89 := Fr.snoc X89 N60 gb74
  have Zs89 : n0 ≤ h89.size := by rw [W89.size]; exact Zs74
  refine OGo.st st89 ?_
  show OGo p.tables e below Φ (T89.setTop (mkF m 37 #[.val (.int xk), .val (.int xa), .val (.int xb), .val (.ref b1), .unset, .unset, .unset, .unset, .unset, .unset] [(.ref b74)]))
  refine OGo.st (fun _ kz => XS.dup X89.here hx rfl (hb hby at_37) rfl rfl kz) ?_
  show OGo p.tables e below Φ (T89.setTop (mkF m 38 #[.val (.int xk), .val (.int xa), .val (.int xb), .val (.ref b1), .unset, .unset, .unset, .unset, .unset, .unset] [(.ref b74), (.ref b74)]))
  refine OGo.st (fun _ kz => XS.iconst X89.here hx rfl (hb hby at_38) kz) ?_
  show OGo p.tables e below Φ (T89.setTop (mkF m 39 #[.val (.int xk), .val (.int xa), .val (.int xb), .val (.ref b1), .unset, .unset, .unset, .unset, .unset, .unset] [(.int (1 : Int32)), (.ref b74), (.ref b74)]))
  refine OGo.st (fun _ kz => XS.bipush X89.here hx rfl (hb hby at_39) kz) ?_
  show OGo p.tables e below Φ (T89.setTop (mkF m 41 #[.val (.int xk), .val (.int xa), .val (.int xb), .val (.ref b1), .unset, .unset, .unset, .unset, .unset, .unset] [(.int (14 : Int32)), (.int (1 : Int32)), (.ref b74), (.ref b74)]))
  obtain ⟨cl104, Aq104, Cq104, S104, M104, H104, G104⟩ := id V89
  have in104 : ¬ ((1 : Int32) < 0 ∨ cl104.slots.size ≤ (1 : Int32).toNatClampNeg) := inb_of S104 ⟨by decide, by decide⟩
  obtain ⟨T104, h104, X104, e104, W104, st104⟩ := stI X89 hx hZ e89 Aq104 in104 (g := (mkF m 41 #[.val (.int xk), .val (.int xa), .val (.int xb), .val (.ref b1), .unset, .unset, .unset, .unset, .unset, .unset] [(.int (14 : Int32)), (.int (1 : Int32)), (.ref b74), (.ref b74)])) rfl rfl (hb hby at_41)
  have F105 := F90.wr W104
  have F106 := F91.wr W104
  have F107 := F92.other W104 (Or.inl ne74_a0_)
  have F108 := F93.wr W104
  have F109 := F94.wr W104
  have F110 := F95.other W104 (Or.inl ne74_a1_)
  have F111 := F96.wr W104
  have F112 := F97.wr W104
  have F113 := F98.other W104 (Or.inl ne74_a2_)
  have F114 := F99.wr W104
  have F115 := F100.wr W104
  have F116 := F101.other W104 (Or.inl ne74_a3_)
  have F117 := F102.wr W104
  have F118 := F103.other W104 ne74_b1
  have V104 : Arv Z h104 b74 c74 .int (4 : Int32) [(.int (8 : Int32)), (.int (14 : Int32)), (.int (0 : Int32)), (.int (0 : Int32))] (.int (0 : Int32)) := Arv.set Aq104 Cq104 S104 M104 H104 G104 rfl W104 1 (by decide) (by show 1 < 4; decide)
  have N104 := Fr.snoc X104 N89 gb74
  have Zs104 : n0 ≤ h104.size := by rw [W104.size]; exact Zs89
  refine OGo.st st104 ?_
  show OGo p.tables e below Φ (T104.setTop (mkF m 42 #[.val (.int xk), .val (.int xa), .val (.int xb), .val (.ref b1), .unset, .unset, .unset, .unset, .unset, .unset] [(.ref b74)]))
  refine OGo.st (fun _ kz => XS.dup X104.here hx rfl (hb hby at_42) rfl rfl kz) ?_
  show OGo p.tables e below Φ (T104.setTop (mkF m 43 #[.val (.int xk), .val (.int xa), .val (.int xb), .val (.ref b1), .unset, .unset, .unset, .unset, .unset, .unset] [(.ref b74), (.ref b74)]))
  refine OGo.st (fun _ kz => XS.iconst X104.here hx rfl (hb hby at_43) kz) ?_
  show OGo p.tables e below Φ (T104.setTop (mkF m 44 #[.val (.int xk), .val (.int xa), .val (.int xb), .val (.ref b1), .unset, .unset, .unset, .unset, .unset, .unset] [(.int (2 : Int32)), (.ref b74), (.ref b74)]))
  refine OGo.st (fun _ kz => XS.bipush X104.here hx rfl (hb hby at_44) kz) ?_
  show OGo p.tables e below Φ (T104.setTop (mkF m 46 #[.val (.int xk), .val (.int xa), .val (.int xb), .val (.ref b1), .unset, .unset, .unset, .unset, .unset, .unset] [(.int (11 : Int32)), (.int (2 : Int32)), (.ref b74), (.ref b74)]))
  obtain ⟨cl119, Aq119, Cq119, S119, M119, H119, G119⟩ := id V104
  have in119 : ¬ ((2 : Int32) < 0 ∨ cl119.slots.size ≤ (2 : Int32).toNatClampNeg) := inb_of S119 ⟨by decide, by decide⟩
  obtain ⟨T119, h119, X119, e119, W119, st119⟩ := stI X104 hx hZ e104 Aq119 in119 (g := (mkF m 46 #[.val (.int xk), .val (.int xa), .val (.int xb), .val (.ref b1), .unset, .unset, .unset, .unset, .unset, .unset] [(.int (11 : Int32)), (.int (2 : Int32)), (.ref b74), (.ref b74)])) rfl rfl (hb hby at_46)
  have F120 := F105.wr W119
  have F121 := F106.wr W119
  have F122 := F107.other W119 (Or.inl ne74_a0_)
  have F123 := F108.wr W119
  have F124 := F109.wr W119
  have F125 := F110.other W119 (Or.inl ne74_a1_)
  have F126 := F111.wr W119
  have F127 := F112.wr W119
  have F128 := F113.other W119 (Or.inl ne74_a2_)
  have F129 := F114.wr W119
  have F130 := F115.wr W119
  have F131 := F116.other W119 (Or.inl ne74_a3_)
  have F132 := F117.wr W119
  have F133 := F118.other W119 ne74_b1
  have V119 : Arv Z h119 b74 c74 .int (4 : Int32) [(.int (8 : Int32)), (.int (14 : Int32)), (.int (11 : Int32)), (.int (0 : Int32))] (.int (0 : Int32)) := Arv.set Aq119 Cq119 S119 M119 H119 G119 rfl W119 2 (by decide) (by show 2 < 4; decide)
  have N119 := Fr.snoc X119 N104 gb74
  have Zs119 : n0 ≤ h119.size := by rw [W119.size]; exact Zs104
  refine OGo.st st119 ?_
  show OGo p.tables e below Φ (T119.setTop (mkF m 47 #[.val (.int xk), .val (.int xa), .val (.int xb), .val (.ref b1), .unset, .unset, .unset, .unset, .unset, .unset] [(.ref b74)]))
  refine OGo.st (fun _ kz => XS.dup X119.here hx rfl (hb hby at_47) rfl rfl kz) ?_
  show OGo p.tables e below Φ (T119.setTop (mkF m 48 #[.val (.int xk), .val (.int xa), .val (.int xb), .val (.ref b1), .unset, .unset, .unset, .unset, .unset, .unset] [(.ref b74), (.ref b74)]))
  refine OGo.st (fun _ kz => XS.iconst X119.here hx rfl (hb hby at_48) kz) ?_
  show OGo p.tables e below Φ (T119.setTop (mkF m 49 #[.val (.int xk), .val (.int xa), .val (.int xb), .val (.ref b1), .unset, .unset, .unset, .unset, .unset, .unset] [(.int (3 : Int32)), (.ref b74), (.ref b74)]))
  refine OGo.st (fun _ kz => XS.bipush X119.here hx rfl (hb hby at_49) kz) ?_
  show OGo p.tables e below Φ (T119.setTop (mkF m 51 #[.val (.int xk), .val (.int xa), .val (.int xb), .val (.ref b1), .unset, .unset, .unset, .unset, .unset, .unset] [(.int (9 : Int32)), (.int (3 : Int32)), (.ref b74), (.ref b74)]))
  obtain ⟨cl134, Aq134, Cq134, S134, M134, H134, G134⟩ := id V119
  have in134 : ¬ ((3 : Int32) < 0 ∨ cl134.slots.size ≤ (3 : Int32).toNatClampNeg) := inb_of S134 ⟨by decide, by decide⟩
  obtain ⟨T134, h134, X134, e134, W134, st134⟩ := stI X119 hx hZ e119 Aq134 in134 (g := (mkF m 51 #[.val (.int xk), .val (.int xa), .val (.int xb), .val (.ref b1), .unset, .unset, .unset, .unset, .unset, .unset] [(.int (9 : Int32)), (.int (3 : Int32)), (.ref b74), (.ref b74)])) rfl rfl (hb hby at_51)
  have F135 := F120.wr W134
  have F136 := F121.wr W134
  have F137 := F122.other W134 (Or.inl ne74_a0_)
  have F138 := F123.wr W134
  have F139 := F124.wr W134
  have F140 := F125.other W134 (Or.inl ne74_a1_)
  have F141 := F126.wr W134
  have F142 := F127.wr W134
  have F143 := F128.other W134 (Or.inl ne74_a2_)
  have F144 := F129.wr W134
  have F145 := F130.wr W134
  have F146 := F131.other W134 (Or.inl ne74_a3_)
  have F147 := F132.wr W134
  have F148 := F133.other W134 ne74_b1
  have V134 : Arv Z h134 b74 c74 .int (4 : Int32) [(.int (8 : Int32)), (.int (14 : Int32)), (.int (11 : Int32)), (.int (9 : Int32))] (.int (0 : Int32)) := Arv.set Aq134 Cq134 S134 M134 H134 G134 rfl W134 3 (by decide) (by show 3 < 4; decide)
  have N134 := Fr.snoc X134 N119 gb74
  have Zs134 : n0 ≤ h134.size := by rw [W134.size]; exact Zs119
  refine OGo.st st134 ?_
  show OGo p.tables e below Φ (T134.setTop (mkF m 52 #[.val (.int xk), .val (.int xa), .val (.int xb), .val (.ref b1), .unset, .unset, .unset, .unset, .unset, .unset] [(.ref b74)]))
  refine OGo.st (fun _ kz => XS.astore X134.here hx rfl (hb hby at_52) rfl rfl (l' := #[.val (.int xk), .val (.int xa), .val (.int xb), .val (.ref b1), .val (.ref b74), .unset, .unset, .unset, .unset, .unset]) rfl kz) ?_
  show OGo p.tables e below Φ (T134.setTop (mkF m 54 #[.val (.int xk), .val (.int xa), .val (.int xb), .val (.ref b1), .val (.ref b74), .unset, .unset, .unset, .unset, .unset] []))
  refine OGo.st (fun _ kz => XS.iloadN X134.here hx rfl (hb hby at_54) rfl kz) ?_
  show OGo p.tables e below Φ (T134.setTop (mkF m 55 #[.val (.int xk), .val (.int xa), .val (.int xb), .val (.ref b1), .val (.ref b74), .unset, .unset, .unset, .unset, .unset] [(.int xk)]))
  refine OGo.st (fun _ kz => XS.iconst X134.here hx rfl (hb hby at_55) kz) ?_
  show OGo p.tables e below Φ (T134.setTop (mkF m 56 #[.val (.int xk), .val (.int xa), .val (.int xb), .val (.ref b1), .val (.ref b74), .unset, .unset, .unset, .unset, .unset] [(.int (3 : Int32)), (.int xk)]))
  refine OGo.st (fun _ kz => XS.iand X134.here hx rfl (hb hby at_56) rfl kz) ?_
  show OGo p.tables e below Φ (T134.setTop (mkF m 57 #[.val (.int xk), .val (.int xa), .val (.int xb), .val (.ref b1), .val (.ref b74), .unset, .unset, .unset, .unset, .unset] [(.int (xk &&& (3 : Int32)))]))
  refine OGo.st (fun _ kz => XS.istore X134.here hx rfl (hb hby at_57) rfl (l' := #[.val (.int xk), .val (.int xa), .val (.int xb), .val (.ref b1), .val (.ref b74), .val (.int (xk &&& (3 : Int32))), .unset, .unset, .unset, .unset]) rfl kz) ?_
  show OGo p.tables e below Φ (T134.setTop (mkF m 59 #[.val (.int xk), .val (.int xa), .val (.int xb), .val (.ref b1), .val (.ref b74), .val (.int (xk &&& (3 : Int32))), .unset, .unset, .unset, .unset] []))
  rcases own_and3 xk with hk149 | hk149 | hk149 | hk149
  · rw [hk149]
    show OGo p.tables e below Φ (T134.setTop (mkF m 59 #[.val (.int xk), .val (.int xa), .val (.int xb), .val (.ref b1), .val (.ref b74), .val (.int (0 : Int32)), .unset, .unset, .unset, .unset] []))
    refine OGo.st (fun _ kz => XS.iloadN X134.here hx rfl (hb hby at_59) rfl kz) ?_
    show OGo p.tables e below Φ (T134.setTop (mkF m 60 #[.val (.int xk), .val (.int xa), .val (.int xb), .val (.ref b1), .val (.ref b74), .val (.int (0 : Int32)), .unset, .unset, .unset, .unset] [(.int xa)]))
    refine OGo.st (fun _ kz => XS.iconst X134.here hx rfl (hb hby at_60) kz) ?_
    show OGo p.tables e below Φ (T134.setTop (mkF m 61 #[.val (.int xk), .val (.int xa), .val (.int xb), .val (.ref b1), .val (.ref b74), .val (.int (0 : Int32)), .unset, .unset, .unset, .unset] [(.int (1 : Int32)), (.int xa)]))
    refine OGo.st (fun _ kz => XS.iand X134.here hx rfl (hb hby at_61) rfl kz) ?_
    show OGo p.tables e below Φ (T134.setTop (mkF m 62 #[.val (.int xk), .val (.int xa), .val (.int xb), .val (.ref b1), .val (.ref b74), .val (.int (0 : Int32)), .unset, .unset, .unset, .unset] [(.int (xa &&& (1 : Int32)))]))
    by_cases hc150 : (xa &&& (1 : Int32)) = 0
    · refine OGo.st (fun _ kz => XS.ifYes X134.here hx rfl (pc0 := 62) (pc' := 69) rfl (hb hby at_62) rfl (XT.i0_eq_t hc150) (by decide) (by decide) kz) ?_
      show OGo p.tables e below Φ (T134.setTop (mkF m 69 #[.val (.int xk), .val (.int xa), .val (.int xb), .val (.ref b1), .val (.ref b74), .val (.int (0 : Int32)), .unset, .unset, .unset, .unset] []))
      refine OGo.st (fun _ kz => XS.iconst X134.here hx rfl (hb hby at_69) kz) ?_
      show OGo p.tables e below Φ (T134.setTop (mkF m 70 #[.val (.int xk), .val (.int xa), .val (.int xb), .val (.ref b1), .val (.ref b74), .val (.int (0 : Int32)), .unset, .unset, .unset, .unset] [(.int (0 : Int32))]))
      refine OGo.st (fun _ kz => XS.istore X134.here hx rfl (hb hby at_70) rfl (l' := #[.val (.int xk), .val (.int xa), .val (.int xb), .val (.ref b1), .val (.ref b74), .val (.int (0 : Int32)), .val (.int (0 : Int32)), .unset, .unset, .unset]) rfl kz) ?_
      show OGo p.tables e below Φ (T134.setTop (mkF m 72 #[.val (.int xk), .val (.int xa), .val (.int xb), .val (.ref b1), .val (.ref b74), .val (.int (0 : Int32)), .val (.int (0 : Int32)), .unset, .unset, .unset] []))
      refine OGo.st (fun _ kz => XS.iloadN X134.here hx rfl (hb hby at_72) rfl kz) ?_
      show OGo p.tables e below Φ (T134.setTop (mkF m 73 #[.val (.int xk), .val (.int xa), .val (.int xb), .val (.ref b1), .val (.ref b74), .val (.int (0 : Int32)), .val (.int (0 : Int32)), .unset, .unset, .unset] [(.int xb)]))
      refine OGo.st (fun _ kz => XS.iconst X134.here hx rfl (hb hby at_73) kz) ?_
      show OGo p.tables e below Φ (T134.setTop (mkF m 74 #[.val (.int xk), .val (.int xa), .val (.int xb), .val (.ref b1), .val (.ref b74), .val (.int (0 : Int32)), .val (.int (0 : Int32)), .unset, .unset, .unset] [(.int (1 : Int32)), (.int xb)]))
      refine OGo.st (fun _ kz => XS.iand X134.here hx rfl (hb hby at_74) rfl kz) ?_
      show OGo p.tables e below Φ (T134.setTop (mkF m 75 #[.val (.int xk), .val (.int xa), .val (.int xb), .val (.ref b1), .val (.ref b74), .val (.int (0 : Int32)), .val (.int (0 : Int32)), .unset, .unset, .unset] [(.int (xb &&& (1 : Int32)))]))
      by_cases hc151 : (xb &&& (1 : Int32)) = 0
      · refine OGo.st (fun _ kz => XS.ifYes X134.here hx rfl (pc0 := 75) (pc' := 82) rfl (hb hby at_75) rfl (XT.i0_eq_t hc151) (by decide) (by decide) kz) ?_
        show OGo p.tables e below Φ (T134.setTop (mkF m 82 #[.val (.int xk), .val (.int xa), .val (.int xb), .val (.ref b1), .val (.ref b74), .val (.int (0 : Int32)), .val (.int (0 : Int32)), .unset, .unset, .unset] []))
        refine OGo.st (fun _ kz => XS.iconst X134.here hx rfl (hb hby at_82) kz) ?_
        show OGo p.tables e below Φ (T134.setTop (mkF m 83 #[.val (.int xk), .val (.int xa), .val (.int xb), .val (.ref b1), .val (.ref b74), .val (.int (0 : Int32)), .val (.int (0 : Int32)), .unset, .unset, .unset] [(.int (0 : Int32))]))
        refine OGo.st (fun _ kz => XS.istore X134.here hx rfl (hb hby at_83) rfl (l' := #[.val (.int xk), .val (.int xa), .val (.int xb), .val (.ref b1), .val (.ref b74), .val (.int (0 : Int32)), .val (.int (0 : Int32)), .val (.int (0 : Int32)), .unset, .unset]) rfl kz) ?_
        show OGo p.tables e below Φ (T134.setTop (mkF m 85 #[.val (.int xk), .val (.int xa), .val (.int xb), .val (.ref b1), .val (.ref b74), .val (.int (0 : Int32)), .val (.int (0 : Int32)), .val (.int (0 : Int32)), .unset, .unset] []))
        refine OGo.st (fun _ kz => XS.iload X134.here hx rfl (hb hby at_85) rfl kz) ?_
        show OGo p.tables e below Φ (T134.setTop (mkF m 87 #[.val (.int xk), .val (.int xa), .val (.int xb), .val (.ref b1), .val (.ref b74), .val (.int (0 : Int32)), .val (.int (0 : Int32)), .val (.int (0 : Int32)), .unset, .unset] [(.int (0 : Int32))]))
        refine OGo.st (fun _ kz => XS.ifYes X134.here hx rfl (pc0 := 87) (pc' := 94) rfl (hb hby at_87) rfl (XT.i0_eq_t (by decide)) (by decide) (by decide) kz) ?_
        show OGo p.tables e below Φ (T134.setTop (mkF m 94 #[.val (.int xk), .val (.int xa), .val (.int xb), .val (.ref b1), .val (.ref b74), .val (.int (0 : Int32)), .val (.int (0 : Int32)), .val (.int (0 : Int32)), .unset, .unset] []))
        refine OGo.st (fun _ kz => XS.iconst X134.here hx rfl (hb hby at_94) kz) ?_
        show OGo p.tables e below Φ (T134.setTop (mkF m 95 #[.val (.int xk), .val (.int xa), .val (.int xb), .val (.ref b1), .val (.ref b74), .val (.int (0 : Int32)), .val (.int (0 : Int32)), .val (.int (0 : Int32)), .unset, .unset] [(.int (0 : Int32))]))
        refine OGo.st (fun _ kz => XS.iload X134.here hx rfl (hb hby at_95) rfl kz) ?_
        show OGo p.tables e below Φ (T134.setTop (mkF m 97 #[.val (.int xk), .val (.int xa), .val (.int xb), .val (.ref b1), .val (.ref b74), .val (.int (0 : Int32)), .val (.int (0 : Int32)), .val (.int (0 : Int32)), .unset, .unset] [(.int (0 : Int32)), (.int (0 : Int32))]))
        refine OGo.st (fun _ kz => XS.ifYes X134.here hx rfl (pc0 := 97) (pc' := 104) rfl (hb hby at_97) rfl (XT.i0_eq_t (by decide)) (by decide) (by decide) kz) ?_
        show OGo p.tables e below Φ (T134.setTop (mkF m 104 #[.val (.int xk), .val (.int xa), .val (.int xb), .val (.ref b1), .val (.ref b74), .val (.int (0 : Int32)), .val (.int (0 : Int32)), .val (.int (0 : Int32)), .unset, .unset] [(.int (0 : Int32))]))
        refine OGo.st (fun _ kz => XS.iconst X134.here hx rfl (hb hby at_104) kz) ?_
        show OGo p.tables e below Φ (T134.setTop (mkF m 105 #[.val (.int xk), .val (.int xa), .val (.int xb), .val (.ref b1), .val (.ref b74), .val (.int (0 : Int32)), .val (.int (0 : Int32)), .val (.int (0 : Int32)), .unset, .unset] [(.int (0 : Int32)), (.int (0 : Int32))]))
        refine OGo.st (fun _ kz => XS.iadd X134.here hx rfl (hb hby at_105) rfl kz) ?_
        show OGo p.tables e below Φ (T134.setTop (mkF m 106 #[.val (.int xk), .val (.int xa), .val (.int xb), .val (.ref b1), .val (.ref b74), .val (.int (0 : Int32)), .val (.int (0 : Int32)), .val (.int (0 : Int32)), .unset, .unset] [(.int (0 : Int32))]))
        refine OGo.st (fun _ kz => XS.istore X134.here hx rfl (hb hby at_106) rfl (l' := #[.val (.int xk), .val (.int xa), .val (.int xb), .val (.ref b1), .val (.ref b74), .val (.int (0 : Int32)), .val (.int (0 : Int32)), .val (.int (0 : Int32)), .val (.int (0 : Int32)), .unset]) rfl kz) ?_
        show OGo p.tables e below Φ (T134.setTop (mkF m 108 #[.val (.int xk), .val (.int xa), .val (.int xb), .val (.ref b1), .val (.ref b74), .val (.int (0 : Int32)), .val (.int (0 : Int32)), .val (.int (0 : Int32)), .val (.int (0 : Int32)), .unset] []))
        refine OGo.st (fun _ kz => XS.aload X134.here hx rfl (hb hby at_108) rfl rfl kz) ?_
        show OGo p.tables e below Φ (T134.setTop (mkF m 110 #[.val (.int xk), .val (.int xa), .val (.int xb), .val (.ref b1), .val (.ref b74), .val (.int (0 : Int32)), .val (.int (0 : Int32)), .val (.int (0 : Int32)), .val (.int (0 : Int32)), .unset] [(.ref b74)]))
        refine OGo.st (fun _ kz => XS.iload X134.here hx rfl (hb hby at_110) rfl kz) ?_
        show OGo p.tables e below Φ (T134.setTop (mkF m 112 #[.val (.int xk), .val (.int xa), .val (.int xb), .val (.ref b1), .val (.ref b74), .val (.int (0 : Int32)), .val (.int (0 : Int32)), .val (.int (0 : Int32)), .val (.int (0 : Int32)), .unset] [(.int (0 : Int32)), (.ref b74)]))
        obtain ⟨cl152, Aq152, -, S152, M152, H152, -⟩ := id V134
        have in152 : ¬ ((0 : Int32) < 0 ∨ cl152.slots.size ≤ (0 : Int32).toNatClampNeg) := inb_of S152 ⟨by decide, by decide⟩
        have at152 : cl152.slots[(0 : Int32).toNatClampNeg]? = some (.int (8 : Int32)) := H152.at in152 rfl
        refine OGo.st (fun _ kz => X134.iaload hx (by rw [e134]; exact Aq152.1) (State.isArrayOf_alike hZ.alike Aq152.2.1) Aq152.2.2 in152 at152 (g := (mkF m 112 #[.val (.int xk), .val (.int xa), .val (.int xb), .val (.ref b1), .val (.ref b74), .val (.int (0 : Int32)), .val (.int (0 : Int32)), .val (.int (0 : Int32)), .val (.int (0 : Int32)), .unset] [(.int (0 : Int32)), (.ref b74)])) rfl rfl (hb hby at_112) _ kz) ?_
        show OGo p.tables e below Φ (T134.setTop (mkF m 113 #[.val (.int xk), .val (.int xa), .val (.int xb), .val (.ref b1), .val (.ref b74), .val (.int (0 : Int32)), .val (.int (0 : Int32)), .val (.int (0 : Int32)), .val (.int (0 : Int32)), .unset] [(.int (8 : Int32))]))
        refine OGo.st (fun _ kz => XS.iload X134.here hx rfl (hb hby at_113) rfl kz) ?_
        show OGo p.tables e below Φ (T134.setTop (mkF m 115 #[.val (.int xk), .val (.int xa), .val (.int xb), .val (.ref b1), .val (.ref b74), .val (.int (0 : Int32)), .val (.int (0 : Int32)), .val (.int (0 : Int32)), .val (.int (0 : Int32)), .unset] [(.int (0 : Int32)), (.int (8 : Int32))]))
        refine OGo.st (fun _ kz => XT.ishr X134.here hx rfl (hb hby at_115) rfl kz) ?_
        show OGo p.tables e below Φ (T134.setTop (mkF m 116 #[.val (.int xk), .val (.int xa), .val (.int xb), .val (.ref b1), .val (.ref b74), .val (.int (0 : Int32)), .val (.int (0 : Int32)), .val (.int (0 : Int32)), .val (.int (0 : Int32)), .unset] [(.int (8 : Int32))]))
        refine OGo.st (fun _ kz => XS.iconst X134.here hx rfl (hb hby at_116) kz) ?_
        show OGo p.tables e below Φ (T134.setTop (mkF m 117 #[.val (.int xk), .val (.int xa), .val (.int xb), .val (.ref b1), .val (.ref b74), .val (.int (0 : Int32)), .val (.int (0 : Int32)), .val (.int (0 : Int32)), .val (.int (0 : Int32)), .unset] [(.int (1 : Int32)), (.int (8 : Int32))]))
        refine OGo.st (fun _ kz => XS.iand X134.here hx rfl (hb hby at_117) rfl kz) ?_
        show OGo p.tables e below Φ (T134.setTop (mkF m 118 #[.val (.int xk), .val (.int xa), .val (.int xb), .val (.ref b1), .val (.ref b74), .val (.int (0 : Int32)), .val (.int (0 : Int32)), .val (.int (0 : Int32)), .val (.int (0 : Int32)), .unset] [(.int (0 : Int32))]))
        refine OGo.st (fun _ kz => XS.ifYes X134.here hx rfl (pc0 := 118) (pc' := 125) rfl (hb hby at_118) rfl (XT.i0_eq_t (by decide)) (by decide) (by decide) kz) ?_
        show OGo p.tables e below Φ (T134.setTop (mkF m 125 #[.val (.int xk), .val (.int xa), .val (.int xb), .val (.ref b1), .val (.ref b74), .val (.int (0 : Int32)), .val (.int (0 : Int32)), .val (.int (0 : Int32)), .val (.int (0 : Int32)), .unset] []))
        refine OGo.st (fun _ kz => XS.iconst X134.here hx rfl (hb hby at_125) kz) ?_
        show OGo p.tables e below Φ (T134.setTop (mkF m 126 #[.val (.int xk), .val (.int xa), .val (.int xb), .val (.ref b1), .val (.ref b74), .val (.int (0 : Int32)), .val (.int (0 : Int32)), .val (.int (0 : Int32)), .val (.int (0 : Int32)), .unset] [(.int (0 : Int32))]))
        refine OGo.st (fun _ kz => XS.istore X134.here hx rfl (hb hby at_126) rfl (l' := #[.val (.int xk), .val (.int xa), .val (.int xb), .val (.ref b1), .val (.ref b74), .val (.int (0 : Int32)), .val (.int (0 : Int32)), .val (.int (0 : Int32)), .val (.int (0 : Int32)), .val (.int (0 : Int32))]) rfl kz) ?_
        show OGo p.tables e below Φ (T134.setTop (mkF m 128 #[.val (.int xk), .val (.int xa), .val (.int xb), .val (.ref b1), .val (.ref b74), .val (.int (0 : Int32)), .val (.int (0 : Int32)), .val (.int (0 : Int32)), .val (.int (0 : Int32)), .val (.int (0 : Int32))] []))
        refine OGo.st (fun _ kz => XS.aloadN X134.here hx rfl (hb hby at_128) rfl rfl kz) ?_
        show OGo p.tables e below Φ (T134.setTop (mkF m 129 #[.val (.int xk), .val (.int xa), .val (.int xb), .val (.ref b1), .val (.ref b74), .val (.int (0 : Int32)), .val (.int (0 : Int32)), .val (.int (0 : Int32)), .val (.int (0 : Int32)), .val (.int (0 : Int32))] [(.ref b1)]))
        refine OGo.st (fun _ kz => XS.iload X134.here hx rfl (hb hby at_129) rfl kz) ?_
        show OGo p.tables e below Φ (T134.setTop (mkF m 131 #[.val (.int xk), .val (.int xa), .val (.int xb), .val (.ref b1), .val (.ref b74), .val (.int (0 : Int32)), .val (.int (0 : Int32)), .val (.int (0 : Int32)), .val (.int (0 : Int32)), .val (.int (0 : Int32))] [(.int (0 : Int32)), (.ref b1)]))
        obtain ⟨cl153, Aq153, -, S153, M153, H153, -⟩ := id F148
        have in153 : ¬ ((0 : Int32) < 0 ∨ cl153.slots.size ≤ (0 : Int32).toNatClampNeg) := inb_of S153 ⟨by decide, by decide⟩
        have at153 : cl153.slots[(0 : Int32).toNatClampNeg]? = some (.ref a0_) := H153.at in153 rfl
        refine OGo.st (fun _ kz => X134.aaload hx (by rw [e134]; exact Aq153.1) (State.isArrayOf_alike hZ.alike Aq153.2.1) rfl Aq153.2.2 in153 at153 (g := (mkF m 131 #[.val (.int xk), .val (.int xa), .val (.int xb), .val (.ref b1), .val (.ref b74), .val (.int (0 : Int32)), .val (.int (0 : Int32)), .val (.int (0 : Int32)), .val (.int (0 : Int32)), .val (.int (0 : Int32))] [(.int (0 : Int32)), (.ref b1)])) rfl rfl (hb hby at_131) _ kz) ?_
        show OGo p.tables e below Φ (T134.setTop (mkF m 132 #[.val (.int xk), .val (.int xa), .val (.int xb), .val (.ref b1), .val (.ref b74), .val (.int (0 : Int32)), .val (.int (0 : Int32)), .val (.int (0 : Int32)), .val (.int (0 : Int32)), .val (.int (0 : Int32))] [(.ref a0_)]))
        refine OGo.st (fun _ kz => XS.iload X134.here hx rfl (hb hby at_132) rfl kz) ?_
        show OGo p.tables e below Φ (T134.setTop (mkF m 134 #[.val (.int xk), .val (.int xa), .val (.int xb), .val (.ref b1), .val (.ref b74), .val (.int (0 : Int32)), .val (.int (0 : Int32)), .val (.int (0 : Int32)), .val (.int (0 : Int32)), .val (.int (0 : Int32))] [(.int (0 : Int32)), (.ref a0_)]))
        refine OGo.st (fun _ kz => XS.iload X134.here hx rfl (hb hby at_134) rfl kz) ?_
        show OGo p.tables e below Φ (T134.setTop (mkF m 136 #[.val (.int xk), .val (.int xa), .val (.int xb), .val (.ref b1), .val (.ref b74), .val (.int (0 : Int32)), .val (.int (0 : Int32)), .val (.int (0 : Int32)), .val (.int (0 : Int32)), .val (.int (0 : Int32))] [(.int (0 : Int32)), (.int (0 : Int32)), (.ref a0_)]))
        obtain ⟨_, T154, L154, X154, hQ154, st154⟩ := own_callVi X134 hx hZ hown (ow13 hw) (ow14 hw) (notFace_of_selects (args := #[]) (mvT hZ (ow16 hw))) (ow16 hw) (ow15 hw) (ow3 hw) (ow17 hw) (by decide) (rm2_0 l Z a0 hw [] a0_ (0 : Int32) (0 : Int32) h134 n0 Zs134 F137 F136) e134 (W := 0) (by decide) (by decide) (by decide) (by decide) F136 (pc := 136) (ls := #[.val (.int xk), .val (.int xa), .val (.int xb), .val (.ref b1), .val (.ref b74), .val (.int (0 : Int32)), .val (.int (0 : Int32)), .val (.int (0 : Int32)), .val (.int (0 : Int32)), .val (.int (0 : Int32))]) (stk := [(.int (0 : Int32)), (.int (0 : Int32)), (.ref a0_)]) (by rw [hml]; rfl) (argsL := [(.int (0 : Int32)), (.int (0 : Int32))]) (rest := []) (lenOf pd1 rfl) rfl rfl (Nat.le_of_eq rfl) (hb hby at_136)
        obtain ⟨rfl, Nq154, e154⟩ := hQ154
        have N154 := Fr.app N134 Nq154
        refine OGo.st st154 ?_
        show OGo p.tables e below Φ (T154.setTop (mkF m 139 #[.val (.int xk), .val (.int xa), .val (.int xb), .val (.ref b1), .val (.ref b74), .val (.int (0 : Int32)), .val (.int (0 : Int32)), .val (.int (0 : Int32)), .val (.int (0 : Int32)), .val (.int (0 : Int32))] [(.int (own_ap0 (0 : Int32) (0 : Int32)))]))
        refine OGo.st (fun _ kz => XS.iload X154.here hx rfl (hb hby at_139) rfl kz) ?_
        show OGo p.tables e below Φ (T154.setTop (mkF m 141 #[.val (.int xk), .val (.int xa), .val (.int xb), .val (.ref b1), .val (.ref b74), .val (.int (0 : Int32)), .val (.int (0 : Int32)), .val (.int (0 : Int32)), .val (.int (0 : Int32)), .val (.int (0 : Int32))] [(.int (0 : Int32)), (.int (own_ap0 (0 : Int32) (0 : Int32)))]))
        by_cases hc155 : (own_ap0 (0 : Int32) (0 : Int32)) = (0 : Int32)
        · refine OGo.st (fun _ kz => XS.icmpNo X154.here hx rfl (hb hby at_141) rfl (XT.ii_ne_f hc155) kz) ?_
          show OGo p.tables e below Φ (T154.setTop (mkF m 144 #[.val (.int xk), .val (.int xa), .val (.int xb), .val (.ref b1), .val (.ref b74), .val (.int (0 : Int32)), .val (.int (0 : Int32)), .val (.int (0 : Int32)), .val (.int (0 : Int32)), .val (.int (0 : Int32))] []))
          refine OGo.st (fun _ kz => XS.iconst X154.here hx rfl (hb hby at_144) kz) ?_
          show OGo p.tables e below Φ (T154.setTop (mkF m 145 #[.val (.int xk), .val (.int xa), .val (.int xb), .val (.ref b1), .val (.ref b74), .val (.int (0 : Int32)), .val (.int (0 : Int32)), .val (.int (0 : Int32)), .val (.int (0 : Int32)), .val (.int (0 : Int32))] [(.int (1 : Int32))]))
          refine OGo.st (fun _ kz => XS.goto X154.here hx rfl (pc0 := 145) (pc' := 149) rfl (hb hby at_145) (by decide) (by decide) kz) ?_
          show OGo p.tables e below Φ (T154.setTop (mkF m 149 #[.val (.int xk), .val (.int xa), .val (.int xb), .val (.ref b1), .val (.ref b74), .val (.int (0 : Int32)), .val (.int (0 : Int32)), .val (.int (0 : Int32)), .val (.int (0 : Int32)), .val (.int (0 : Int32))] [(.int (1 : Int32))]))
          refine OGo.fin X154 hlk (v := (some (.int (1 : Int32)))) (fun h => by rw [hret] at h; cases h) (by decide) (by decide) (fun fs hr => X154.ireturnOut hx hret rfl (by simp) (hb hby at_149) hr) fun U eU hF => hΦ _ _ _ ?_ hF
          rw [eU, e154]
          show Q_rm0 Z xk xa xb a0_ a1_ a2_ a3_ h0 n0 _ _ _
          exact ⟨rfl, N154⟩
        · refine OGo.st (fun _ kz => XS.icmpYes X154.here hx rfl (pc0 := 141) (pc' := 148) rfl (hb hby at_141) rfl (XT.ii_ne_t hc155) (by decide) (by decide) kz) ?_
          show OGo p.tables e below Φ (T154.setTop (mkF m 148 #[.val (.int xk), .val (.int xa), .val (.int xb), .val (.ref b1), .val (.ref b74), .val (.int (0 : Int32)), .val (.int (0 : Int32)), .val (.int (0 : Int32)), .val (.int (0 : Int32)), .val (.int (0 : Int32))] []))
          refine OGo.st (fun _ kz => XS.iconst X154.here hx rfl (hb hby at_148) kz) ?_
          show OGo p.tables e below Φ (T154.setTop (mkF m 149 #[.val (.int xk), .val (.int xa), .val (.int xb), .val (.ref b1), .val (.ref b74), .val (.int (0 : Int32)), .val (.int (0 : Int32)), .val (.int (0 : Int32)), .val (.int (0 : Int32)), .val (.int (0 : Int32))] [(.int (0 : Int32))]))
          exact absurd (by decide) hc155
      · refine OGo.st (fun _ kz => XS.ifNo X134.here hx rfl (hb hby at_75) rfl (XT.i0_eq_f hc151) kz) ?_
        show OGo p.tables e below Φ (T134.setTop (mkF m 78 #[.val (.int xk), .val (.int xa), .val (.int xb), .val (.ref b1), .val (.ref b74), .val (.int (0 : Int32)), .val (.int (0 : Int32)), .unset, .unset, .unset] []))
        refine OGo.st (fun _ kz => XS.iconst X134.here hx rfl (hb hby at_78) kz) ?_
        show OGo p.tables e below Φ (T134.setTop (mkF m 79 #[.val (.int xk), .val (.int xa), .val (.int xb), .val (.ref b1), .val (.ref b74), .val (.int (0 : Int32)), .val (.int (0 : Int32)), .unset, .unset, .unset] [(.int (1 : Int32))]))
        refine OGo.st (fun _ kz => XS.goto X134.here hx rfl (pc0 := 79) (pc' := 83) rfl (hb hby at_79) (by decide) (by decide) kz) ?_
        show OGo p.tables e below Φ (T134.setTop (mkF m 83 #[.val (.int xk), .val (.int xa), .val (.int xb), .val (.ref b1), .val (.ref b74), .val (.int (0 : Int32)), .val (.int (0 : Int32)), .unset, .unset, .unset] [(.int (1 : Int32))]))
        refine OGo.st (fun _ kz => XS.istore X134.here hx rfl (hb hby at_83) rfl (l' := #[.val (.int xk), .val (.int xa), .val (.int xb), .val (.ref b1), .val (.ref b74), .val (.int (0 : Int32)), .val (.int (0 : Int32)), .val (.int (1 : Int32)), .unset, .unset]) rfl kz) ?_
        show OGo p.tables e below Φ (T134.setTop (mkF m 85 #[.val (.int xk), .val (.int xa), .val (.int xb), .val (.ref b1), .val (.ref b74), .val (.int (0 : Int32)), .val (.int (0 : Int32)), .val (.int (1 : Int32)), .unset, .unset] []))
        refine OGo.st (fun _ kz => XS.iload X134.here hx rfl (hb hby at_85) rfl kz) ?_
        show OGo p.tables e below Φ (T134.setTop (mkF m 87 #[.val (.int xk), .val (.int xa), .val (.int xb), .val (.ref b1), .val (.ref b74), .val (.int (0 : Int32)), .val (.int (0 : Int32)), .val (.int (1 : Int32)), .unset, .unset] [(.int (0 : Int32))]))
        refine OGo.st (fun _ kz => XS.ifYes X134.here hx rfl (pc0 := 87) (pc' := 94) rfl (hb hby at_87) rfl (XT.i0_eq_t (by decide)) (by decide) (by decide) kz) ?_
        show OGo p.tables e below Φ (T134.setTop (mkF m 94 #[.val (.int xk), .val (.int xa), .val (.int xb), .val (.ref b1), .val (.ref b74), .val (.int (0 : Int32)), .val (.int (0 : Int32)), .val (.int (1 : Int32)), .unset, .unset] []))
        refine OGo.st (fun _ kz => XS.iconst X134.here hx rfl (hb hby at_94) kz) ?_
        show OGo p.tables e below Φ (T134.setTop (mkF m 95 #[.val (.int xk), .val (.int xa), .val (.int xb), .val (.ref b1), .val (.ref b74), .val (.int (0 : Int32)), .val (.int (0 : Int32)), .val (.int (1 : Int32)), .unset, .unset] [(.int (0 : Int32))]))
        refine OGo.st (fun _ kz => XS.iload X134.here hx rfl (hb hby at_95) rfl kz) ?_
        show OGo p.tables e below Φ (T134.setTop (mkF m 97 #[.val (.int xk), .val (.int xa), .val (.int xb), .val (.ref b1), .val (.ref b74), .val (.int (0 : Int32)), .val (.int (0 : Int32)), .val (.int (1 : Int32)), .unset, .unset] [(.int (1 : Int32)), (.int (0 : Int32))]))
        refine OGo.st (fun _ kz => XS.ifNo X134.here hx rfl (hb hby at_97) rfl (XT.i0_eq_f (by decide)) kz) ?_
        show OGo p.tables e below Φ (T134.setTop (mkF m 100 #[.val (.int xk), .val (.int xa), .val (.int xb), .val (.ref b1), .val (.ref b74), .val (.int (0 : Int32)), .val (.int (0 : Int32)), .val (.int (1 : Int32)), .unset, .unset] [(.int (0 : Int32))]))
        refine OGo.st (fun _ kz => XS.iconst X134.here hx rfl (hb hby at_100) kz) ?_
        show OGo p.tables e below Φ (T134.setTop (mkF m 101 #[.val (.int xk), .val (.int xa), .val (.int xb), .val (.ref b1), .val (.ref b74), .val (.int (0 : Int32)), .val (.int (0 : Int32)), .val (.int (1 : Int32)), .unset, .unset] [(.int (1 : Int32)), (.int (0 : Int32))]))
        refine OGo.st (fun _ kz => XS.goto X134.here hx rfl (pc0 := 101) (pc' := 105) rfl (hb hby at_101) (by decide) (by decide) kz) ?_
        show OGo p.tables e below Φ (T134.setTop (mkF m 105 #[.val (.int xk), .val (.int xa), .val (.int xb), .val (.ref b1), .val (.ref b74), .val (.int (0 : Int32)), .val (.int (0 : Int32)), .val (.int (1 : Int32)), .unset, .unset] [(.int (1 : Int32)), (.int (0 : Int32))]))
        refine OGo.st (fun _ kz => XS.iadd X134.here hx rfl (hb hby at_105) rfl kz) ?_
        show OGo p.tables e below Φ (T134.setTop (mkF m 106 #[.val (.int xk), .val (.int xa), .val (.int xb), .val (.ref b1), .val (.ref b74), .val (.int (0 : Int32)), .val (.int (0 : Int32)), .val (.int (1 : Int32)), .unset, .unset] [(.int (1 : Int32))]))
        refine OGo.st (fun _ kz => XS.istore X134.here hx rfl (hb hby at_106) rfl (l' := #[.val (.int xk), .val (.int xa), .val (.int xb), .val (.ref b1), .val (.ref b74), .val (.int (0 : Int32)), .val (.int (0 : Int32)), .val (.int (1 : Int32)), .val (.int (1 : Int32)), .unset]) rfl kz) ?_
        show OGo p.tables e below Φ (T134.setTop (mkF m 108 #[.val (.int xk), .val (.int xa), .val (.int xb), .val (.ref b1), .val (.ref b74), .val (.int (0 : Int32)), .val (.int (0 : Int32)), .val (.int (1 : Int32)), .val (.int (1 : Int32)), .unset] []))
        refine OGo.st (fun _ kz => XS.aload X134.here hx rfl (hb hby at_108) rfl rfl kz) ?_
        show OGo p.tables e below Φ (T134.setTop (mkF m 110 #[.val (.int xk), .val (.int xa), .val (.int xb), .val (.ref b1), .val (.ref b74), .val (.int (0 : Int32)), .val (.int (0 : Int32)), .val (.int (1 : Int32)), .val (.int (1 : Int32)), .unset] [(.ref b74)]))
        refine OGo.st (fun _ kz => XS.iload X134.here hx rfl (hb hby at_110) rfl kz) ?_
        show OGo p.tables e below Φ (T134.setTop (mkF m 112 #[.val (.int xk), .val (.int xa), .val (.int xb), .val (.ref b1), .val (.ref b74), .val (.int (0 : Int32)), .val (.int (0 : Int32)), .val (.int (1 : Int32)), .val (.int (1 : Int32)), .unset] [(.int (0 : Int32)), (.ref b74)]))
        obtain ⟨cl156, Aq156, -, S156, M156, H156, -⟩ := id V134
        have in156 : ¬ ((0 : Int32) < 0 ∨ cl156.slots.size ≤ (0 : Int32).toNatClampNeg) := inb_of S156 ⟨by decide, by decide⟩
        have at156 : cl156.slots[(0 : Int32).toNatClampNeg]? = some (.int (8 : Int32)) := H156.at in156 rfl
        refine OGo.st (fun _ kz => X134.iaload hx (by rw [e134]; exact Aq156.1) (State.isArrayOf_alike hZ.alike Aq156.2.1) Aq156.2.2 in156 at156 (g := (mkF m 112 #[.val (.int xk), .val (.int xa), .val (.int xb), .val (.ref b1), .val (.ref b74), .val (.int (0 : Int32)), .val (.int (0 : Int32)), .val (.int (1 : Int32)), .val (.int (1 : Int32)), .unset] [(.int (0 : Int32)), (.ref b74)])) rfl rfl (hb hby at_112) _ kz) ?_
        show OGo p.tables e below Φ (T134.setTop (mkF m 113 #[.val (.int xk), .val (.int xa), .val (.int xb), .val (.ref b1), .val (.ref b74), .val (.int (0 : Int32)), .val (.int (0 : Int32)), .val (.int (1 : Int32)), .val (.int (1 : Int32)), .unset] [(.int (8 : Int32))]))
        refine OGo.st (fun _ kz => XS.iload X134.here hx rfl (hb hby at_113) rfl kz) ?_
        show OGo p.tables e below Φ (T134.setTop (mkF m 115 #[.val (.int xk), .val (.int xa), .val (.int xb), .val (.ref b1), .val (.ref b74), .val (.int (0 : Int32)), .val (.int (0 : Int32)), .val (.int (1 : Int32)), .val (.int (1 : Int32)), .unset] [(.int (1 : Int32)), (.int (8 : Int32))]))
        refine OGo.st (fun _ kz => XT.ishr X134.here hx rfl (hb hby at_115) rfl kz) ?_
        show OGo p.tables e below Φ (T134.setTop (mkF m 116 #[.val (.int xk), .val (.int xa), .val (.int xb), .val (.ref b1), .val (.ref b74), .val (.int (0 : Int32)), .val (.int (0 : Int32)), .val (.int (1 : Int32)), .val (.int (1 : Int32)), .unset] [(.int (4 : Int32))]))
        refine OGo.st (fun _ kz => XS.iconst X134.here hx rfl (hb hby at_116) kz) ?_
        show OGo p.tables e below Φ (T134.setTop (mkF m 117 #[.val (.int xk), .val (.int xa), .val (.int xb), .val (.ref b1), .val (.ref b74), .val (.int (0 : Int32)), .val (.int (0 : Int32)), .val (.int (1 : Int32)), .val (.int (1 : Int32)), .unset] [(.int (1 : Int32)), (.int (4 : Int32))]))
        refine OGo.st (fun _ kz => XS.iand X134.here hx rfl (hb hby at_117) rfl kz) ?_
        show OGo p.tables e below Φ (T134.setTop (mkF m 118 #[.val (.int xk), .val (.int xa), .val (.int xb), .val (.ref b1), .val (.ref b74), .val (.int (0 : Int32)), .val (.int (0 : Int32)), .val (.int (1 : Int32)), .val (.int (1 : Int32)), .unset] [(.int (0 : Int32))]))
        refine OGo.st (fun _ kz => XS.ifYes X134.here hx rfl (pc0 := 118) (pc' := 125) rfl (hb hby at_118) rfl (XT.i0_eq_t (by decide)) (by decide) (by decide) kz) ?_
        show OGo p.tables e below Φ (T134.setTop (mkF m 125 #[.val (.int xk), .val (.int xa), .val (.int xb), .val (.ref b1), .val (.ref b74), .val (.int (0 : Int32)), .val (.int (0 : Int32)), .val (.int (1 : Int32)), .val (.int (1 : Int32)), .unset] []))
        refine OGo.st (fun _ kz => XS.iconst X134.here hx rfl (hb hby at_125) kz) ?_
        show OGo p.tables e below Φ (T134.setTop (mkF m 126 #[.val (.int xk), .val (.int xa), .val (.int xb), .val (.ref b1), .val (.ref b74), .val (.int (0 : Int32)), .val (.int (0 : Int32)), .val (.int (1 : Int32)), .val (.int (1 : Int32)), .unset] [(.int (0 : Int32))]))
        refine OGo.st (fun _ kz => XS.istore X134.here hx rfl (hb hby at_126) rfl (l' := #[.val (.int xk), .val (.int xa), .val (.int xb), .val (.ref b1), .val (.ref b74), .val (.int (0 : Int32)), .val (.int (0 : Int32)), .val (.int (1 : Int32)), .val (.int (1 : Int32)), .val (.int (0 : Int32))]) rfl kz) ?_
        show OGo p.tables e below Φ (T134.setTop (mkF m 128 #[.val (.int xk), .val (.int xa), .val (.int xb), .val (.ref b1), .val (.ref b74), .val (.int (0 : Int32)), .val (.int (0 : Int32)), .val (.int (1 : Int32)), .val (.int (1 : Int32)), .val (.int (0 : Int32))] []))
        refine OGo.st (fun _ kz => XS.aloadN X134.here hx rfl (hb hby at_128) rfl rfl kz) ?_
        show OGo p.tables e below Φ (T134.setTop (mkF m 129 #[.val (.int xk), .val (.int xa), .val (.int xb), .val (.ref b1), .val (.ref b74), .val (.int (0 : Int32)), .val (.int (0 : Int32)), .val (.int (1 : Int32)), .val (.int (1 : Int32)), .val (.int (0 : Int32))] [(.ref b1)]))
        refine OGo.st (fun _ kz => XS.iload X134.here hx rfl (hb hby at_129) rfl kz) ?_
        show OGo p.tables e below Φ (T134.setTop (mkF m 131 #[.val (.int xk), .val (.int xa), .val (.int xb), .val (.ref b1), .val (.ref b74), .val (.int (0 : Int32)), .val (.int (0 : Int32)), .val (.int (1 : Int32)), .val (.int (1 : Int32)), .val (.int (0 : Int32))] [(.int (0 : Int32)), (.ref b1)]))
        obtain ⟨cl157, Aq157, -, S157, M157, H157, -⟩ := id F148
        have in157 : ¬ ((0 : Int32) < 0 ∨ cl157.slots.size ≤ (0 : Int32).toNatClampNeg) := inb_of S157 ⟨by decide, by decide⟩
        have at157 : cl157.slots[(0 : Int32).toNatClampNeg]? = some (.ref a0_) := H157.at in157 rfl
        refine OGo.st (fun _ kz => X134.aaload hx (by rw [e134]; exact Aq157.1) (State.isArrayOf_alike hZ.alike Aq157.2.1) rfl Aq157.2.2 in157 at157 (g := (mkF m 131 #[.val (.int xk), .val (.int xa), .val (.int xb), .val (.ref b1), .val (.ref b74), .val (.int (0 : Int32)), .val (.int (0 : Int32)), .val (.int (1 : Int32)), .val (.int (1 : Int32)), .val (.int (0 : Int32))] [(.int (0 : Int32)), (.ref b1)])) rfl rfl (hb hby at_131) _ kz) ?_
        show OGo p.tables e below Φ (T134.setTop (mkF m 132 #[.val (.int xk), .val (.int xa), .val (.int xb), .val (.ref b1), .val (.ref b74), .val (.int (0 : Int32)), .val (.int (0 : Int32)), .val (.int (1 : Int32)), .val (.int (1 : Int32)), .val (.int (0 : Int32))] [(.ref a0_)]))
        refine OGo.st (fun _ kz => XS.iload X134.here hx rfl (hb hby at_132) rfl kz) ?_
        show OGo p.tables e below Φ (T134.setTop (mkF m 134 #[.val (.int xk), .val (.int xa), .val (.int xb), .val (.ref b1), .val (.ref b74), .val (.int (0 : Int32)), .val (.int (0 : Int32)), .val (.int (1 : Int32)), .val (.int (1 : Int32)), .val (.int (0 : Int32))] [(.int (0 : Int32)), (.ref a0_)]))
        refine OGo.st (fun _ kz => XS.iload X134.here hx rfl (hb hby at_134) rfl kz) ?_
        show OGo p.tables e below Φ (T134.setTop (mkF m 136 #[.val (.int xk), .val (.int xa), .val (.int xb), .val (.ref b1), .val (.ref b74), .val (.int (0 : Int32)), .val (.int (0 : Int32)), .val (.int (1 : Int32)), .val (.int (1 : Int32)), .val (.int (0 : Int32))] [(.int (1 : Int32)), (.int (0 : Int32)), (.ref a0_)]))
        obtain ⟨_, T158, L158, X158, hQ158, st158⟩ := own_callVi X134 hx hZ hown (ow13 hw) (ow14 hw) (notFace_of_selects (args := #[]) (mvT hZ (ow16 hw))) (ow16 hw) (ow15 hw) (ow3 hw) (ow17 hw) (by decide) (rm2_0 l Z a0 hw [] a0_ (0 : Int32) (1 : Int32) h134 n0 Zs134 F137 F136) e134 (W := 0) (by decide) (by decide) (by decide) (by decide) F136 (pc := 136) (ls := #[.val (.int xk), .val (.int xa), .val (.int xb), .val (.ref b1), .val (.ref b74), .val (.int (0 : Int32)), .val (.int (0 : Int32)), .val (.int (1 : Int32)), .val (.int (1 : Int32)), .val (.int (0 : Int32))]) (stk := [(.int (1 : Int32)), (.int (0 : Int32)), (.ref a0_)]) (by rw [hml]; rfl) (argsL := [(.int (0 : Int32)), (.int (1 : Int32))]) (rest := []) (lenOf pd1 rfl) rfl rfl (Nat.le_of_eq rfl) (hb hby at_136)
        obtain ⟨rfl, Nq158, e158⟩ := hQ158
        have N158 := Fr.app N134 Nq158
        refine OGo.st st158 ?_
        show OGo p.tables e below Φ (T158.setTop (mkF m 139 #[.val (.int xk), .val (.int xa), .val (.int xb), .val (.ref b1), .val (.ref b74), .val (.int (0 : Int32)), .val (.int (0 : Int32)), .val (.int (1 : Int32)), .val (.int (1 : Int32)), .val (.int (0 : Int32))] [(.int (own_ap0 (0 : Int32) (1 : Int32)))]))
        refine OGo.st (fun _ kz => XS.iload X158.here hx rfl (hb hby at_139) rfl kz) ?_
        show OGo p.tables e below Φ (T158.setTop (mkF m 141 #[.val (.int xk), .val (.int xa), .val (.int xb), .val (.ref b1), .val (.ref b74), .val (.int (0 : Int32)), .val (.int (0 : Int32)), .val (.int (1 : Int32)), .val (.int (1 : Int32)), .val (.int (0 : Int32))] [(.int (0 : Int32)), (.int (own_ap0 (0 : Int32) (1 : Int32)))]))
        by_cases hc159 : (own_ap0 (0 : Int32) (1 : Int32)) = (0 : Int32)
        · refine OGo.st (fun _ kz => XS.icmpNo X158.here hx rfl (hb hby at_141) rfl (XT.ii_ne_f hc159) kz) ?_
          show OGo p.tables e below Φ (T158.setTop (mkF m 144 #[.val (.int xk), .val (.int xa), .val (.int xb), .val (.ref b1), .val (.ref b74), .val (.int (0 : Int32)), .val (.int (0 : Int32)), .val (.int (1 : Int32)), .val (.int (1 : Int32)), .val (.int (0 : Int32))] []))
          refine OGo.st (fun _ kz => XS.iconst X158.here hx rfl (hb hby at_144) kz) ?_
          show OGo p.tables e below Φ (T158.setTop (mkF m 145 #[.val (.int xk), .val (.int xa), .val (.int xb), .val (.ref b1), .val (.ref b74), .val (.int (0 : Int32)), .val (.int (0 : Int32)), .val (.int (1 : Int32)), .val (.int (1 : Int32)), .val (.int (0 : Int32))] [(.int (1 : Int32))]))
          refine OGo.st (fun _ kz => XS.goto X158.here hx rfl (pc0 := 145) (pc' := 149) rfl (hb hby at_145) (by decide) (by decide) kz) ?_
          show OGo p.tables e below Φ (T158.setTop (mkF m 149 #[.val (.int xk), .val (.int xa), .val (.int xb), .val (.ref b1), .val (.ref b74), .val (.int (0 : Int32)), .val (.int (0 : Int32)), .val (.int (1 : Int32)), .val (.int (1 : Int32)), .val (.int (0 : Int32))] [(.int (1 : Int32))]))
          refine OGo.fin X158 hlk (v := (some (.int (1 : Int32)))) (fun h => by rw [hret] at h; cases h) (by decide) (by decide) (fun fs hr => X158.ireturnOut hx hret rfl (by simp) (hb hby at_149) hr) fun U eU hF => hΦ _ _ _ ?_ hF
          rw [eU, e158]
          show Q_rm0 Z xk xa xb a0_ a1_ a2_ a3_ h0 n0 _ _ _
          exact ⟨rfl, N158⟩
        · refine OGo.st (fun _ kz => XS.icmpYes X158.here hx rfl (pc0 := 141) (pc' := 148) rfl (hb hby at_141) rfl (XT.ii_ne_t hc159) (by decide) (by decide) kz) ?_
          show OGo p.tables e below Φ (T158.setTop (mkF m 148 #[.val (.int xk), .val (.int xa), .val (.int xb), .val (.ref b1), .val (.ref b74), .val (.int (0 : Int32)), .val (.int (0 : Int32)), .val (.int (1 : Int32)), .val (.int (1 : Int32)), .val (.int (0 : Int32))] []))
          refine OGo.st (fun _ kz => XS.iconst X158.here hx rfl (hb hby at_148) kz) ?_
          show OGo p.tables e below Φ (T158.setTop (mkF m 149 #[.val (.int xk), .val (.int xa), .val (.int xb), .val (.ref b1), .val (.ref b74), .val (.int (0 : Int32)), .val (.int (0 : Int32)), .val (.int (1 : Int32)), .val (.int (1 : Int32)), .val (.int (0 : Int32))] [(.int (0 : Int32))]))
          exact absurd (by decide) hc159
    · refine OGo.st (fun _ kz => XS.ifNo X134.here hx rfl (hb hby at_62) rfl (XT.i0_eq_f hc150) kz) ?_
      show OGo p.tables e below Φ (T134.setTop (mkF m 65 #[.val (.int xk), .val (.int xa), .val (.int xb), .val (.ref b1), .val (.ref b74), .val (.int (0 : Int32)), .unset, .unset, .unset, .unset] []))
      refine OGo.st (fun _ kz => XS.iconst X134.here hx rfl (hb hby at_65) kz) ?_
      show OGo p.tables e below Φ (T134.setTop (mkF m 66 #[.val (.int xk), .val (.int xa), .val (.int xb), .val (.ref b1), .val (.ref b74), .val (.int (0 : Int32)), .unset, .unset, .unset, .unset] [(.int (1 : Int32))]))
      refine OGo.st (fun _ kz => XS.goto X134.here hx rfl (pc0 := 66) (pc' := 70) rfl (hb hby at_66) (by decide) (by decide) kz) ?_
      show OGo p.tables e below Φ (T134.setTop (mkF m 70 #[.val (.int xk), .val (.int xa), .val (.int xb), .val (.ref b1), .val (.ref b74), .val (.int (0 : Int32)), .unset, .unset, .unset, .unset] [(.int (1 : Int32))]))
      refine OGo.st (fun _ kz => XS.istore X134.here hx rfl (hb hby at_70) rfl (l' := #[.val (.int xk), .val (.int xa), .val (.int xb), .val (.ref b1), .val (.ref b74), .val (.int (0 : Int32)), .val (.int (1 : Int32)), .unset, .unset, .unset]) rfl kz) ?_
      show OGo p.tables e below Φ (T134.setTop (mkF m 72 #[.val (.int xk), .val (.int xa), .val (.int xb), .val (.ref b1), .val (.ref b74), .val (.int (0 : Int32)), .val (.int (1 : Int32)), .unset, .unset, .unset] []))
      refine OGo.st (fun _ kz => XS.iloadN X134.here hx rfl (hb hby at_72) rfl kz) ?_
      show OGo p.tables e below Φ (T134.setTop (mkF m 73 #[.val (.int xk), .val (.int xa), .val (.int xb), .val (.ref b1), .val (.ref b74), .val (.int (0 : Int32)), .val (.int (1 : Int32)), .unset, .unset, .unset] [(.int xb)]))
      refine OGo.st (fun _ kz => XS.iconst X134.here hx rfl (hb hby at_73) kz) ?_
      show OGo p.tables e below Φ (T134.setTop (mkF m 74 #[.val (.int xk), .val (.int xa), .val (.int xb), .val (.ref b1), .val (.ref b74), .val (.int (0 : Int32)), .val (.int (1 : Int32)), .unset, .unset, .unset] [(.int (1 : Int32)), (.int xb)]))
      refine OGo.st (fun _ kz => XS.iand X134.here hx rfl (hb hby at_74) rfl kz) ?_
      show OGo p.tables e below Φ (T134.setTop (mkF m 75 #[.val (.int xk), .val (.int xa), .val (.int xb), .val (.ref b1), .val (.ref b74), .val (.int (0 : Int32)), .val (.int (1 : Int32)), .unset, .unset, .unset] [(.int (xb &&& (1 : Int32)))]))
      by_cases hc160 : (xb &&& (1 : Int32)) = 0
      · refine OGo.st (fun _ kz => XS.ifYes X134.here hx rfl (pc0 := 75) (pc' := 82) rfl (hb hby at_75) rfl (XT.i0_eq_t hc160) (by decide) (by decide) kz) ?_
        show OGo p.tables e below Φ (T134.setTop (mkF m 82 #[.val (.int xk), .val (.int xa), .val (.int xb), .val (.ref b1), .val (.ref b74), .val (.int (0 : Int32)), .val (.int (1 : Int32)), .unset, .unset, .unset] []))
        refine OGo.st (fun _ kz => XS.iconst X134.here hx rfl (hb hby at_82) kz) ?_
        show OGo p.tables e below Φ (T134.setTop (mkF m 83 #[.val (.int xk), .val (.int xa), .val (.int xb), .val (.ref b1), .val (.ref b74), .val (.int (0 : Int32)), .val (.int (1 : Int32)), .unset, .unset, .unset] [(.int (0 : Int32))]))
        refine OGo.st (fun _ kz => XS.istore X134.here hx rfl (hb hby at_83) rfl (l' := #[.val (.int xk), .val (.int xa), .val (.int xb), .val (.ref b1), .val (.ref b74), .val (.int (0 : Int32)), .val (.int (1 : Int32)), .val (.int (0 : Int32)), .unset, .unset]) rfl kz) ?_
        show OGo p.tables e below Φ (T134.setTop (mkF m 85 #[.val (.int xk), .val (.int xa), .val (.int xb), .val (.ref b1), .val (.ref b74), .val (.int (0 : Int32)), .val (.int (1 : Int32)), .val (.int (0 : Int32)), .unset, .unset] []))
        refine OGo.st (fun _ kz => XS.iload X134.here hx rfl (hb hby at_85) rfl kz) ?_
        show OGo p.tables e below Φ (T134.setTop (mkF m 87 #[.val (.int xk), .val (.int xa), .val (.int xb), .val (.ref b1), .val (.ref b74), .val (.int (0 : Int32)), .val (.int (1 : Int32)), .val (.int (0 : Int32)), .unset, .unset] [(.int (1 : Int32))]))
        refine OGo.st (fun _ kz => XS.ifNo X134.here hx rfl (hb hby at_87) rfl (XT.i0_eq_f (by decide)) kz) ?_
        show OGo p.tables e below Φ (T134.setTop (mkF m 90 #[.val (.int xk), .val (.int xa), .val (.int xb), .val (.ref b1), .val (.ref b74), .val (.int (0 : Int32)), .val (.int (1 : Int32)), .val (.int (0 : Int32)), .unset, .unset] []))
        refine OGo.st (fun _ kz => XS.iconst X134.here hx rfl (hb hby at_90) kz) ?_
        show OGo p.tables e below Φ (T134.setTop (mkF m 91 #[.val (.int xk), .val (.int xa), .val (.int xb), .val (.ref b1), .val (.ref b74), .val (.int (0 : Int32)), .val (.int (1 : Int32)), .val (.int (0 : Int32)), .unset, .unset] [(.int (2 : Int32))]))
        refine OGo.st (fun _ kz => XS.goto X134.here hx rfl (pc0 := 91) (pc' := 95) rfl (hb hby at_91) (by decide) (by decide) kz) ?_
        show OGo p.tables e below Φ (T134.setTop (mkF m 95 #[.val (.int xk), .val (.int xa), .val (.int xb), .val (.ref b1), .val (.ref b74), .val (.int (0 : Int32)), .val (.int (1 : Int32)), .val (.int (0 : Int32)), .unset, .unset] [(.int (2 : Int32))]))
        refine OGo.st (fun _ kz => XS.iload X134.here hx rfl (hb hby at_95) rfl kz) ?_
        show OGo p.tables e below Φ (T134.setTop (mkF m 97 #[.val (.int xk), .val (.int xa), .val (.int xb), .val (.ref b1), .val (.ref b74), .val (.int (0 : Int32)), .val (.int (1 : Int32)), .val (.int (0 : Int32)), .unset, .unset] [(.int (0 : Int32)), (.int (2 : Int32))]))
        refine OGo.st (fun _ kz => XS.ifYes X134.here hx rfl (pc0 := 97) (pc' := 104) rfl (hb hby at_97) rfl (XT.i0_eq_t (by decide)) (by decide) (by decide) kz) ?_
        show OGo p.tables e below Φ (T134.setTop (mkF m 104 #[.val (.int xk), .val (.int xa), .val (.int xb), .val (.ref b1), .val (.ref b74), .val (.int (0 : Int32)), .val (.int (1 : Int32)), .val (.int (0 : Int32)), .unset, .unset] [(.int (2 : Int32))]))
        refine OGo.st (fun _ kz => XS.iconst X134.here hx rfl (hb hby at_104) kz) ?_
        show OGo p.tables e below Φ (T134.setTop (mkF m 105 #[.val (.int xk), .val (.int xa), .val (.int xb), .val (.ref b1), .val (.ref b74), .val (.int (0 : Int32)), .val (.int (1 : Int32)), .val (.int (0 : Int32)), .unset, .unset] [(.int (0 : Int32)), (.int (2 : Int32))]))
        refine OGo.st (fun _ kz => XS.iadd X134.here hx rfl (hb hby at_105) rfl kz) ?_
        show OGo p.tables e below Φ (T134.setTop (mkF m 106 #[.val (.int xk), .val (.int xa), .val (.int xb), .val (.ref b1), .val (.ref b74), .val (.int (0 : Int32)), .val (.int (1 : Int32)), .val (.int (0 : Int32)), .unset, .unset] [(.int (2 : Int32))]))
        refine OGo.st (fun _ kz => XS.istore X134.here hx rfl (hb hby at_106) rfl (l' := #[.val (.int xk), .val (.int xa), .val (.int xb), .val (.ref b1), .val (.ref b74), .val (.int (0 : Int32)), .val (.int (1 : Int32)), .val (.int (0 : Int32)), .val (.int (2 : Int32)), .unset]) rfl kz) ?_
        show OGo p.tables e below Φ (T134.setTop (mkF m 108 #[.val (.int xk), .val (.int xa), .val (.int xb), .val (.ref b1), .val (.ref b74), .val (.int (0 : Int32)), .val (.int (1 : Int32)), .val (.int (0 : Int32)), .val (.int (2 : Int32)), .unset] []))
        refine OGo.st (fun _ kz => XS.aload X134.here hx rfl (hb hby at_108) rfl rfl kz) ?_
        show OGo p.tables e below Φ (T134.setTop (mkF m 110 #[.val (.int xk), .val (.int xa), .val (.int xb), .val (.ref b1), .val (.ref b74), .val (.int (0 : Int32)), .val (.int (1 : Int32)), .val (.int (0 : Int32)), .val (.int (2 : Int32)), .unset] [(.ref b74)]))
        refine OGo.st (fun _ kz => XS.iload X134.here hx rfl (hb hby at_110) rfl kz) ?_
        show OGo p.tables e below Φ (T134.setTop (mkF m 112 #[.val (.int xk), .val (.int xa), .val (.int xb), .val (.ref b1), .val (.ref b74), .val (.int (0 : Int32)), .val (.int (1 : Int32)), .val (.int (0 : Int32)), .val (.int (2 : Int32)), .unset] [(.int (0 : Int32)), (.ref b74)]))
        obtain ⟨cl161, Aq161, -, S161, M161, H161, -⟩ := id V134
        have in161 : ¬ ((0 : Int32) < 0 ∨ cl161.slots.size ≤ (0 : Int32).toNatClampNeg) := inb_of S161 ⟨by decide, by decide⟩
        have at161 : cl161.slots[(0 : Int32).toNatClampNeg]? = some (.int (8 : Int32)) := H161.at in161 rfl
        refine OGo.st (fun _ kz => X134.iaload hx (by rw [e134]; exact Aq161.1) (State.isArrayOf_alike hZ.alike Aq161.2.1) Aq161.2.2 in161 at161 (g := (mkF m 112 #[.val (.int xk), .val (.int xa), .val (.int xb), .val (.ref b1), .val (.ref b74), .val (.int (0 : Int32)), .val (.int (1 : Int32)), .val (.int (0 : Int32)), .val (.int (2 : Int32)), .unset] [(.int (0 : Int32)), (.ref b74)])) rfl rfl (hb hby at_112) _ kz) ?_
        show OGo p.tables e below Φ (T134.setTop (mkF m 113 #[.val (.int xk), .val (.int xa), .val (.int xb), .val (.ref b1), .val (.ref b74), .val (.int (0 : Int32)), .val (.int (1 : Int32)), .val (.int (0 : Int32)), .val (.int (2 : Int32)), .unset] [(.int (8 : Int32))]))
        refine OGo.st (fun _ kz => XS.iload X134.here hx rfl (hb hby at_113) rfl kz) ?_
        show OGo p.tables e below Φ (T134.setTop (mkF m 115 #[.val (.int xk), .val (.int xa), .val (.int xb), .val (.ref b1), .val (.ref b74), .val (.int (0 : Int32)), .val (.int (1 : Int32)), .val (.int (0 : Int32)), .val (.int (2 : Int32)), .unset] [(.int (2 : Int32)), (.int (8 : Int32))]))
        refine OGo.st (fun _ kz => XT.ishr X134.here hx rfl (hb hby at_115) rfl kz) ?_
        show OGo p.tables e below Φ (T134.setTop (mkF m 116 #[.val (.int xk), .val (.int xa), .val (.int xb), .val (.ref b1), .val (.ref b74), .val (.int (0 : Int32)), .val (.int (1 : Int32)), .val (.int (0 : Int32)), .val (.int (2 : Int32)), .unset] [(.int (2 : Int32))]))
        refine OGo.st (fun _ kz => XS.iconst X134.here hx rfl (hb hby at_116) kz) ?_
        show OGo p.tables e below Φ (T134.setTop (mkF m 117 #[.val (.int xk), .val (.int xa), .val (.int xb), .val (.ref b1), .val (.ref b74), .val (.int (0 : Int32)), .val (.int (1 : Int32)), .val (.int (0 : Int32)), .val (.int (2 : Int32)), .unset] [(.int (1 : Int32)), (.int (2 : Int32))]))
        refine OGo.st (fun _ kz => XS.iand X134.here hx rfl (hb hby at_117) rfl kz) ?_
        show OGo p.tables e below Φ (T134.setTop (mkF m 118 #[.val (.int xk), .val (.int xa), .val (.int xb), .val (.ref b1), .val (.ref b74), .val (.int (0 : Int32)), .val (.int (1 : Int32)), .val (.int (0 : Int32)), .val (.int (2 : Int32)), .unset] [(.int (0 : Int32))]))
        refine OGo.st (fun _ kz => XS.ifYes X134.here hx rfl (pc0 := 118) (pc' := 125) rfl (hb hby at_118) rfl (XT.i0_eq_t (by decide)) (by decide) (by decide) kz) ?_
        show OGo p.tables e below Φ (T134.setTop (mkF m 125 #[.val (.int xk), .val (.int xa), .val (.int xb), .val (.ref b1), .val (.ref b74), .val (.int (0 : Int32)), .val (.int (1 : Int32)), .val (.int (0 : Int32)), .val (.int (2 : Int32)), .unset] []))
        refine OGo.st (fun _ kz => XS.iconst X134.here hx rfl (hb hby at_125) kz) ?_
        show OGo p.tables e below Φ (T134.setTop (mkF m 126 #[.val (.int xk), .val (.int xa), .val (.int xb), .val (.ref b1), .val (.ref b74), .val (.int (0 : Int32)), .val (.int (1 : Int32)), .val (.int (0 : Int32)), .val (.int (2 : Int32)), .unset] [(.int (0 : Int32))]))
        refine OGo.st (fun _ kz => XS.istore X134.here hx rfl (hb hby at_126) rfl (l' := #[.val (.int xk), .val (.int xa), .val (.int xb), .val (.ref b1), .val (.ref b74), .val (.int (0 : Int32)), .val (.int (1 : Int32)), .val (.int (0 : Int32)), .val (.int (2 : Int32)), .val (.int (0 : Int32))]) rfl kz) ?_
        show OGo p.tables e below Φ (T134.setTop (mkF m 128 #[.val (.int xk), .val (.int xa), .val (.int xb), .val (.ref b1), .val (.ref b74), .val (.int (0 : Int32)), .val (.int (1 : Int32)), .val (.int (0 : Int32)), .val (.int (2 : Int32)), .val (.int (0 : Int32))] []))
        refine OGo.st (fun _ kz => XS.aloadN X134.here hx rfl (hb hby at_128) rfl rfl kz) ?_
        show OGo p.tables e below Φ (T134.setTop (mkF m 129 #[.val (.int xk), .val (.int xa), .val (.int xb), .val (.ref b1), .val (.ref b74), .val (.int (0 : Int32)), .val (.int (1 : Int32)), .val (.int (0 : Int32)), .val (.int (2 : Int32)), .val (.int (0 : Int32))] [(.ref b1)]))
        refine OGo.st (fun _ kz => XS.iload X134.here hx rfl (hb hby at_129) rfl kz) ?_
        show OGo p.tables e below Φ (T134.setTop (mkF m 131 #[.val (.int xk), .val (.int xa), .val (.int xb), .val (.ref b1), .val (.ref b74), .val (.int (0 : Int32)), .val (.int (1 : Int32)), .val (.int (0 : Int32)), .val (.int (2 : Int32)), .val (.int (0 : Int32))] [(.int (0 : Int32)), (.ref b1)]))
        obtain ⟨cl162, Aq162, -, S162, M162, H162, -⟩ := id F148
        have in162 : ¬ ((0 : Int32) < 0 ∨ cl162.slots.size ≤ (0 : Int32).toNatClampNeg) := inb_of S162 ⟨by decide, by decide⟩
        have at162 : cl162.slots[(0 : Int32).toNatClampNeg]? = some (.ref a0_) := H162.at in162 rfl
        refine OGo.st (fun _ kz => X134.aaload hx (by rw [e134]; exact Aq162.1) (State.isArrayOf_alike hZ.alike Aq162.2.1) rfl Aq162.2.2 in162 at162 (g := (mkF m 131 #[.val (.int xk), .val (.int xa), .val (.int xb), .val (.ref b1), .val (.ref b74), .val (.int (0 : Int32)), .val (.int (1 : Int32)), .val (.int (0 : Int32)), .val (.int (2 : Int32)), .val (.int (0 : Int32))] [(.int (0 : Int32)), (.ref b1)])) rfl rfl (hb hby at_131) _ kz) ?_
        show OGo p.tables e below Φ (T134.setTop (mkF m 132 #[.val (.int xk), .val (.int xa), .val (.int xb), .val (.ref b1), .val (.ref b74), .val (.int (0 : Int32)), .val (.int (1 : Int32)), .val (.int (0 : Int32)), .val (.int (2 : Int32)), .val (.int (0 : Int32))] [(.ref a0_)]))
        refine OGo.st (fun _ kz => XS.iload X134.here hx rfl (hb hby at_132) rfl kz) ?_
        show OGo p.tables e below Φ (T134.setTop (mkF m 134 #[.val (.int xk), .val (.int xa), .val (.int xb), .val (.ref b1), .val (.ref b74), .val (.int (0 : Int32)), .val (.int (1 : Int32)), .val (.int (0 : Int32)), .val (.int (2 : Int32)), .val (.int (0 : Int32))] [(.int (1 : Int32)), (.ref a0_)]))
        refine OGo.st (fun _ kz => XS.iload X134.here hx rfl (hb hby at_134) rfl kz) ?_
        show OGo p.tables e below Φ (T134.setTop (mkF m 136 #[.val (.int xk), .val (.int xa), .val (.int xb), .val (.ref b1), .val (.ref b74), .val (.int (0 : Int32)), .val (.int (1 : Int32)), .val (.int (0 : Int32)), .val (.int (2 : Int32)), .val (.int (0 : Int32))] [(.int (0 : Int32)), (.int (1 : Int32)), (.ref a0_)]))
        obtain ⟨_, T163, L163, X163, hQ163, st163⟩ := own_callVi X134 hx hZ hown (ow13 hw) (ow14 hw) (notFace_of_selects (args := #[]) (mvT hZ (ow16 hw))) (ow16 hw) (ow15 hw) (ow3 hw) (ow17 hw) (by decide) (rm2_0 l Z a0 hw [] a0_ (1 : Int32) (0 : Int32) h134 n0 Zs134 F137 F136) e134 (W := 0) (by decide) (by decide) (by decide) (by decide) F136 (pc := 136) (ls := #[.val (.int xk), .val (.int xa), .val (.int xb), .val (.ref b1), .val (.ref b74), .val (.int (0 : Int32)), .val (.int (1 : Int32)), .val (.int (0 : Int32)), .val (.int (2 : Int32)), .val (.int (0 : Int32))]) (stk := [(.int (0 : Int32)), (.int (1 : Int32)), (.ref a0_)]) (by rw [hml]; rfl) (argsL := [(.int (1 : Int32)), (.int (0 : Int32))]) (rest := []) (lenOf pd1 rfl) rfl rfl (Nat.le_of_eq rfl) (hb hby at_136)
        obtain ⟨rfl, Nq163, e163⟩ := hQ163
        have N163 := Fr.app N134 Nq163
        refine OGo.st st163 ?_
        show OGo p.tables e below Φ (T163.setTop (mkF m 139 #[.val (.int xk), .val (.int xa), .val (.int xb), .val (.ref b1), .val (.ref b74), .val (.int (0 : Int32)), .val (.int (1 : Int32)), .val (.int (0 : Int32)), .val (.int (2 : Int32)), .val (.int (0 : Int32))] [(.int (own_ap0 (1 : Int32) (0 : Int32)))]))
        refine OGo.st (fun _ kz => XS.iload X163.here hx rfl (hb hby at_139) rfl kz) ?_
        show OGo p.tables e below Φ (T163.setTop (mkF m 141 #[.val (.int xk), .val (.int xa), .val (.int xb), .val (.ref b1), .val (.ref b74), .val (.int (0 : Int32)), .val (.int (1 : Int32)), .val (.int (0 : Int32)), .val (.int (2 : Int32)), .val (.int (0 : Int32))] [(.int (0 : Int32)), (.int (own_ap0 (1 : Int32) (0 : Int32)))]))
        by_cases hc164 : (own_ap0 (1 : Int32) (0 : Int32)) = (0 : Int32)
        · refine OGo.st (fun _ kz => XS.icmpNo X163.here hx rfl (hb hby at_141) rfl (XT.ii_ne_f hc164) kz) ?_
          show OGo p.tables e below Φ (T163.setTop (mkF m 144 #[.val (.int xk), .val (.int xa), .val (.int xb), .val (.ref b1), .val (.ref b74), .val (.int (0 : Int32)), .val (.int (1 : Int32)), .val (.int (0 : Int32)), .val (.int (2 : Int32)), .val (.int (0 : Int32))] []))
          refine OGo.st (fun _ kz => XS.iconst X163.here hx rfl (hb hby at_144) kz) ?_
          show OGo p.tables e below Φ (T163.setTop (mkF m 145 #[.val (.int xk), .val (.int xa), .val (.int xb), .val (.ref b1), .val (.ref b74), .val (.int (0 : Int32)), .val (.int (1 : Int32)), .val (.int (0 : Int32)), .val (.int (2 : Int32)), .val (.int (0 : Int32))] [(.int (1 : Int32))]))
          refine OGo.st (fun _ kz => XS.goto X163.here hx rfl (pc0 := 145) (pc' := 149) rfl (hb hby at_145) (by decide) (by decide) kz) ?_
          show OGo p.tables e below Φ (T163.setTop (mkF m 149 #[.val (.int xk), .val (.int xa), .val (.int xb), .val (.ref b1), .val (.ref b74), .val (.int (0 : Int32)), .val (.int (1 : Int32)), .val (.int (0 : Int32)), .val (.int (2 : Int32)), .val (.int (0 : Int32))] [(.int (1 : Int32))]))
          refine OGo.fin X163 hlk (v := (some (.int (1 : Int32)))) (fun h => by rw [hret] at h; cases h) (by decide) (by decide) (fun fs hr => X163.ireturnOut hx hret rfl (by simp) (hb hby at_149) hr) fun U eU hF => hΦ _ _ _ ?_ hF
          rw [eU, e163]
          show Q_rm0 Z xk xa xb a0_ a1_ a2_ a3_ h0 n0 _ _ _
          exact ⟨rfl, N163⟩
        · refine OGo.st (fun _ kz => XS.icmpYes X163.here hx rfl (pc0 := 141) (pc' := 148) rfl (hb hby at_141) rfl (XT.ii_ne_t hc164) (by decide) (by decide) kz) ?_
          show OGo p.tables e below Φ (T163.setTop (mkF m 148 #[.val (.int xk), .val (.int xa), .val (.int xb), .val (.ref b1), .val (.ref b74), .val (.int (0 : Int32)), .val (.int (1 : Int32)), .val (.int (0 : Int32)), .val (.int (2 : Int32)), .val (.int (0 : Int32))] []))
          refine OGo.st (fun _ kz => XS.iconst X163.here hx rfl (hb hby at_148) kz) ?_
          show OGo p.tables e below Φ (T163.setTop (mkF m 149 #[.val (.int xk), .val (.int xa), .val (.int xb), .val (.ref b1), .val (.ref b74), .val (.int (0 : Int32)), .val (.int (1 : Int32)), .val (.int (0 : Int32)), .val (.int (2 : Int32)), .val (.int (0 : Int32))] [(.int (0 : Int32))]))
          exact absurd (by decide) hc164
      · refine OGo.st (fun _ kz => XS.ifNo X134.here hx rfl (hb hby at_75) rfl (XT.i0_eq_f hc160) kz) ?_
        show OGo p.tables e below Φ (T134.setTop (mkF m 78 #[.val (.int xk), .val (.int xa), .val (.int xb), .val (.ref b1), .val (.ref b74), .val (.int (0 : Int32)), .val (.int (1 : Int32)), .unset, .unset, .unset] []))
        refine OGo.st (fun _ kz => XS.iconst X134.here hx rfl (hb hby at_78) kz) ?_
        show OGo p.tables e below Φ (T134.setTop (mkF m 79 #[.val (.int xk), .val (.int xa), .val (.int xb), .val (.ref b1), .val (.ref b74), .val (.int (0 : Int32)), .val (.int (1 : Int32)), .unset, .unset, .unset] [(.int (1 : Int32))]))
        refine OGo.st (fun _ kz => XS.goto X134.here hx rfl (pc0 := 79) (pc' := 83) rfl (hb hby at_79) (by decide) (by decide) kz) ?_
        show OGo p.tables e below Φ (T134.setTop (mkF m 83 #[.val (.int xk), .val (.int xa), .val (.int xb), .val (.ref b1), .val (.ref b74), .val (.int (0 : Int32)), .val (.int (1 : Int32)), .unset, .unset, .unset] [(.int (1 : Int32))]))
        refine OGo.st (fun _ kz => XS.istore X134.here hx rfl (hb hby at_83) rfl (l' := #[.val (.int xk), .val (.int xa), .val (.int xb), .val (.ref b1), .val (.ref b74), .val (.int (0 : Int32)), .val (.int (1 : Int32)), .val (.int (1 : Int32)), .unset, .unset]) rfl kz) ?_
        show OGo p.tables e below Φ (T134.setTop (mkF m 85 #[.val (.int xk), .val (.int xa), .val (.int xb), .val (.ref b1), .val (.ref b74), .val (.int (0 : Int32)), .val (.int (1 : Int32)), .val (.int (1 : Int32)), .unset, .unset] []))
        refine OGo.st (fun _ kz => XS.iload X134.here hx rfl (hb hby at_85) rfl kz) ?_
        show OGo p.tables e below Φ (T134.setTop (mkF m 87 #[.val (.int xk), .val (.int xa), .val (.int xb), .val (.ref b1), .val (.ref b74), .val (.int (0 : Int32)), .val (.int (1 : Int32)), .val (.int (1 : Int32)), .unset, .unset] [(.int (1 : Int32))]))
        refine OGo.st (fun _ kz => XS.ifNo X134.here hx rfl (hb hby at_87) rfl (XT.i0_eq_f (by decide)) kz) ?_
        show OGo p.tables e below Φ (T134.setTop (mkF m 90 #[.val (.int xk), .val (.int xa), .val (.int xb), .val (.ref b1), .val (.ref b74), .val (.int (0 : Int32)), .val (.int (1 : Int32)), .val (.int (1 : Int32)), .unset, .unset] []))
        refine OGo.st (fun _ kz => XS.iconst X134.here hx rfl (hb hby at_90) kz) ?_
        show OGo p.tables e below Φ (T134.setTop (mkF m 91 #[.val (.int xk), .val (.int xa), .val (.int xb), .val (.ref b1), .val (.ref b74), .val (.int (0 : Int32)), .val (.int (1 : Int32)), .val (.int (1 : Int32)), .unset, .unset] [(.int (2 : Int32))]))
        refine OGo.st (fun _ kz => XS.goto X134.here hx rfl (pc0 := 91) (pc' := 95) rfl (hb hby at_91) (by decide) (by decide) kz) ?_
        show OGo p.tables e below Φ (T134.setTop (mkF m 95 #[.val (.int xk), .val (.int xa), .val (.int xb), .val (.ref b1), .val (.ref b74), .val (.int (0 : Int32)), .val (.int (1 : Int32)), .val (.int (1 : Int32)), .unset, .unset] [(.int (2 : Int32))]))
        refine OGo.st (fun _ kz => XS.iload X134.here hx rfl (hb hby at_95) rfl kz) ?_
        show OGo p.tables e below Φ (T134.setTop (mkF m 97 #[.val (.int xk), .val (.int xa), .val (.int xb), .val (.ref b1), .val (.ref b74), .val (.int (0 : Int32)), .val (.int (1 : Int32)), .val (.int (1 : Int32)), .unset, .unset] [(.int (1 : Int32)), (.int (2 : Int32))]))
        refine OGo.st (fun _ kz => XS.ifNo X134.here hx rfl (hb hby at_97) rfl (XT.i0_eq_f (by decide)) kz) ?_
        show OGo p.tables e below Φ (T134.setTop (mkF m 100 #[.val (.int xk), .val (.int xa), .val (.int xb), .val (.ref b1), .val (.ref b74), .val (.int (0 : Int32)), .val (.int (1 : Int32)), .val (.int (1 : Int32)), .unset, .unset] [(.int (2 : Int32))]))
        refine OGo.st (fun _ kz => XS.iconst X134.here hx rfl (hb hby at_100) kz) ?_
        show OGo p.tables e below Φ (T134.setTop (mkF m 101 #[.val (.int xk), .val (.int xa), .val (.int xb), .val (.ref b1), .val (.ref b74), .val (.int (0 : Int32)), .val (.int (1 : Int32)), .val (.int (1 : Int32)), .unset, .unset] [(.int (1 : Int32)), (.int (2 : Int32))]))
        refine OGo.st (fun _ kz => XS.goto X134.here hx rfl (pc0 := 101) (pc' := 105) rfl (hb hby at_101) (by decide) (by decide) kz) ?_
        show OGo p.tables e below Φ (T134.setTop (mkF m 105 #[.val (.int xk), .val (.int xa), .val (.int xb), .val (.ref b1), .val (.ref b74), .val (.int (0 : Int32)), .val (.int (1 : Int32)), .val (.int (1 : Int32)), .unset, .unset] [(.int (1 : Int32)), (.int (2 : Int32))]))
        refine OGo.st (fun _ kz => XS.iadd X134.here hx rfl (hb hby at_105) rfl kz) ?_
        show OGo p.tables e below Φ (T134.setTop (mkF m 106 #[.val (.int xk), .val (.int xa), .val (.int xb), .val (.ref b1), .val (.ref b74), .val (.int (0 : Int32)), .val (.int (1 : Int32)), .val (.int (1 : Int32)), .unset, .unset] [(.int (3 : Int32))]))
        refine OGo.st (fun _ kz => XS.istore X134.here hx rfl (hb hby at_106) rfl (l' := #[.val (.int xk), .val (.int xa), .val (.int xb), .val (.ref b1), .val (.ref b74), .val (.int (0 : Int32)), .val (.int (1 : Int32)), .val (.int (1 : Int32)), .val (.int (3 : Int32)), .unset]) rfl kz) ?_
        show OGo p.tables e below Φ (T134.setTop (mkF m 108 #[.val (.int xk), .val (.int xa), .val (.int xb), .val (.ref b1), .val (.ref b74), .val (.int (0 : Int32)), .val (.int (1 : Int32)), .val (.int (1 : Int32)), .val (.int (3 : Int32)), .unset] []))
        refine OGo.st (fun _ kz => XS.aload X134.here hx rfl (hb hby at_108) rfl rfl kz) ?_
        show OGo p.tables e below Φ (T134.setTop (mkF m 110 #[.val (.int xk), .val (.int xa), .val (.int xb), .val (.ref b1), .val (.ref b74), .val (.int (0 : Int32)), .val (.int (1 : Int32)), .val (.int (1 : Int32)), .val (.int (3 : Int32)), .unset] [(.ref b74)]))
        refine OGo.st (fun _ kz => XS.iload X134.here hx rfl (hb hby at_110) rfl kz) ?_
        show OGo p.tables e below Φ (T134.setTop (mkF m 112 #[.val (.int xk), .val (.int xa), .val (.int xb), .val (.ref b1), .val (.ref b74), .val (.int (0 : Int32)), .val (.int (1 : Int32)), .val (.int (1 : Int32)), .val (.int (3 : Int32)), .unset] [(.int (0 : Int32)), (.ref b74)]))
        obtain ⟨cl165, Aq165, -, S165, M165, H165, -⟩ := id V134
        have in165 : ¬ ((0 : Int32) < 0 ∨ cl165.slots.size ≤ (0 : Int32).toNatClampNeg) := inb_of S165 ⟨by decide, by decide⟩
        have at165 : cl165.slots[(0 : Int32).toNatClampNeg]? = some (.int (8 : Int32)) := H165.at in165 rfl
        refine OGo.st (fun _ kz => X134.iaload hx (by rw [e134]; exact Aq165.1) (State.isArrayOf_alike hZ.alike Aq165.2.1) Aq165.2.2 in165 at165 (g := (mkF m 112 #[.val (.int xk), .val (.int xa), .val (.int xb), .val (.ref b1), .val (.ref b74), .val (.int (0 : Int32)), .val (.int (1 : Int32)), .val (.int (1 : Int32)), .val (.int (3 : Int32)), .unset] [(.int (0 : Int32)), (.ref b74)])) rfl rfl (hb hby at_112) _ kz) ?_
        show OGo p.tables e below Φ (T134.setTop (mkF m 113 #[.val (.int xk), .val (.int xa), .val (.int xb), .val (.ref b1), .val (.ref b74), .val (.int (0 : Int32)), .val (.int (1 : Int32)), .val (.int (1 : Int32)), .val (.int (3 : Int32)), .unset] [(.int (8 : Int32))]))
        refine OGo.st (fun _ kz => XS.iload X134.here hx rfl (hb hby at_113) rfl kz) ?_
        show OGo p.tables e below Φ (T134.setTop (mkF m 115 #[.val (.int xk), .val (.int xa), .val (.int xb), .val (.ref b1), .val (.ref b74), .val (.int (0 : Int32)), .val (.int (1 : Int32)), .val (.int (1 : Int32)), .val (.int (3 : Int32)), .unset] [(.int (3 : Int32)), (.int (8 : Int32))]))
        refine OGo.st (fun _ kz => XT.ishr X134.here hx rfl (hb hby at_115) rfl kz) ?_
        show OGo p.tables e below Φ (T134.setTop (mkF m 116 #[.val (.int xk), .val (.int xa), .val (.int xb), .val (.ref b1), .val (.ref b74), .val (.int (0 : Int32)), .val (.int (1 : Int32)), .val (.int (1 : Int32)), .val (.int (3 : Int32)), .unset] [(.int (1 : Int32))]))
        refine OGo.st (fun _ kz => XS.iconst X134.here hx rfl (hb hby at_116) kz) ?_
        show OGo p.tables e below Φ (T134.setTop (mkF m 117 #[.val (.int xk), .val (.int xa), .val (.int xb), .val (.ref b1), .val (.ref b74), .val (.int (0 : Int32)), .val (.int (1 : Int32)), .val (.int (1 : Int32)), .val (.int (3 : Int32)), .unset] [(.int (1 : Int32)), (.int (1 : Int32))]))
        refine OGo.st (fun _ kz => XS.iand X134.here hx rfl (hb hby at_117) rfl kz) ?_
        show OGo p.tables e below Φ (T134.setTop (mkF m 118 #[.val (.int xk), .val (.int xa), .val (.int xb), .val (.ref b1), .val (.ref b74), .val (.int (0 : Int32)), .val (.int (1 : Int32)), .val (.int (1 : Int32)), .val (.int (3 : Int32)), .unset] [(.int (1 : Int32))]))
        refine OGo.st (fun _ kz => XS.ifNo X134.here hx rfl (hb hby at_118) rfl (XT.i0_eq_f (by decide)) kz) ?_
        show OGo p.tables e below Φ (T134.setTop (mkF m 121 #[.val (.int xk), .val (.int xa), .val (.int xb), .val (.ref b1), .val (.ref b74), .val (.int (0 : Int32)), .val (.int (1 : Int32)), .val (.int (1 : Int32)), .val (.int (3 : Int32)), .unset] []))
        refine OGo.st (fun _ kz => XS.iconst X134.here hx rfl (hb hby at_121) kz) ?_
        show OGo p.tables e below Φ (T134.setTop (mkF m 122 #[.val (.int xk), .val (.int xa), .val (.int xb), .val (.ref b1), .val (.ref b74), .val (.int (0 : Int32)), .val (.int (1 : Int32)), .val (.int (1 : Int32)), .val (.int (3 : Int32)), .unset] [(.int (1 : Int32))]))
        refine OGo.st (fun _ kz => XS.goto X134.here hx rfl (pc0 := 122) (pc' := 126) rfl (hb hby at_122) (by decide) (by decide) kz) ?_
        show OGo p.tables e below Φ (T134.setTop (mkF m 126 #[.val (.int xk), .val (.int xa), .val (.int xb), .val (.ref b1), .val (.ref b74), .val (.int (0 : Int32)), .val (.int (1 : Int32)), .val (.int (1 : Int32)), .val (.int (3 : Int32)), .unset] [(.int (1 : Int32))]))
        refine OGo.st (fun _ kz => XS.istore X134.here hx rfl (hb hby at_126) rfl (l' := #[.val (.int xk), .val (.int xa), .val (.int xb), .val (.ref b1), .val (.ref b74), .val (.int (0 : Int32)), .val (.int (1 : Int32)), .val (.int (1 : Int32)), .val (.int (3 : Int32)), .val (.int (1 : Int32))]) rfl kz) ?_
        show OGo p.tables e below Φ (T134.setTop (mkF m 128 #[.val (.int xk), .val (.int xa), .val (.int xb), .val (.ref b1), .val (.ref b74), .val (.int (0 : Int32)), .val (.int (1 : Int32)), .val (.int (1 : Int32)), .val (.int (3 : Int32)), .val (.int (1 : Int32))] []))
        refine OGo.st (fun _ kz => XS.aloadN X134.here hx rfl (hb hby at_128) rfl rfl kz) ?_
        show OGo p.tables e below Φ (T134.setTop (mkF m 129 #[.val (.int xk), .val (.int xa), .val (.int xb), .val (.ref b1), .val (.ref b74), .val (.int (0 : Int32)), .val (.int (1 : Int32)), .val (.int (1 : Int32)), .val (.int (3 : Int32)), .val (.int (1 : Int32))] [(.ref b1)]))
        refine OGo.st (fun _ kz => XS.iload X134.here hx rfl (hb hby at_129) rfl kz) ?_
        show OGo p.tables e below Φ (T134.setTop (mkF m 131 #[.val (.int xk), .val (.int xa), .val (.int xb), .val (.ref b1), .val (.ref b74), .val (.int (0 : Int32)), .val (.int (1 : Int32)), .val (.int (1 : Int32)), .val (.int (3 : Int32)), .val (.int (1 : Int32))] [(.int (0 : Int32)), (.ref b1)]))
        obtain ⟨cl166, Aq166, -, S166, M166, H166, -⟩ := id F148
        have in166 : ¬ ((0 : Int32) < 0 ∨ cl166.slots.size ≤ (0 : Int32).toNatClampNeg) := inb_of S166 ⟨by decide, by decide⟩
        have at166 : cl166.slots[(0 : Int32).toNatClampNeg]? = some (.ref a0_) := H166.at in166 rfl
        refine OGo.st (fun _ kz => X134.aaload hx (by rw [e134]; exact Aq166.1) (State.isArrayOf_alike hZ.alike Aq166.2.1) rfl Aq166.2.2 in166 at166 (g := (mkF m 131 #[.val (.int xk), .val (.int xa), .val (.int xb), .val (.ref b1), .val (.ref b74), .val (.int (0 : Int32)), .val (.int (1 : Int32)), .val (.int (1 : Int32)), .val (.int (3 : Int32)), .val (.int (1 : Int32))] [(.int (0 : Int32)), (.ref b1)])) rfl rfl (hb hby at_131) _ kz) ?_
        show OGo p.tables e below Φ (T134.setTop (mkF m 132 #[.val (.int xk), .val (.int xa), .val (.int xb), .val (.ref b1), .val (.ref b74), .val (.int (0 : Int32)), .val (.int (1 : Int32)), .val (.int (1 : Int32)), .val (.int (3 : Int32)), .val (.int (1 : Int32))] [(.ref a0_)]))
        refine OGo.st (fun _ kz => XS.iload X134.here hx rfl (hb hby at_132) rfl kz) ?_
        show OGo p.tables e below Φ (T134.setTop (mkF m 134 #[.val (.int xk), .val (.int xa), .val (.int xb), .val (.ref b1), .val (.ref b74), .val (.int (0 : Int32)), .val (.int (1 : Int32)), .val (.int (1 : Int32)), .val (.int (3 : Int32)), .val (.int (1 : Int32))] [(.int (1 : Int32)), (.ref a0_)]))
        refine OGo.st (fun _ kz => XS.iload X134.here hx rfl (hb hby at_134) rfl kz) ?_
        show OGo p.tables e below Φ (T134.setTop (mkF m 136 #[.val (.int xk), .val (.int xa), .val (.int xb), .val (.ref b1), .val (.ref b74), .val (.int (0 : Int32)), .val (.int (1 : Int32)), .val (.int (1 : Int32)), .val (.int (3 : Int32)), .val (.int (1 : Int32))] [(.int (1 : Int32)), (.int (1 : Int32)), (.ref a0_)]))
        obtain ⟨_, T167, L167, X167, hQ167, st167⟩ := own_callVi X134 hx hZ hown (ow13 hw) (ow14 hw) (notFace_of_selects (args := #[]) (mvT hZ (ow16 hw))) (ow16 hw) (ow15 hw) (ow3 hw) (ow17 hw) (by decide) (rm2_0 l Z a0 hw [] a0_ (1 : Int32) (1 : Int32) h134 n0 Zs134 F137 F136) e134 (W := 0) (by decide) (by decide) (by decide) (by decide) F136 (pc := 136) (ls := #[.val (.int xk), .val (.int xa), .val (.int xb), .val (.ref b1), .val (.ref b74), .val (.int (0 : Int32)), .val (.int (1 : Int32)), .val (.int (1 : Int32)), .val (.int (3 : Int32)), .val (.int (1 : Int32))]) (stk := [(.int (1 : Int32)), (.int (1 : Int32)), (.ref a0_)]) (by rw [hml]; rfl) (argsL := [(.int (1 : Int32)), (.int (1 : Int32))]) (rest := []) (lenOf pd1 rfl) rfl rfl (Nat.le_of_eq rfl) (hb hby at_136)
        obtain ⟨rfl, Nq167, e167⟩ := hQ167
        have N167 := Fr.app N134 Nq167
        refine OGo.st st167 ?_
        show OGo p.tables e below Φ (T167.setTop (mkF m 139 #[.val (.int xk), .val (.int xa), .val (.int xb), .val (.ref b1), .val (.ref b74), .val (.int (0 : Int32)), .val (.int (1 : Int32)), .val (.int (1 : Int32)), .val (.int (3 : Int32)), .val (.int (1 : Int32))] [(.int (own_ap0 (1 : Int32) (1 : Int32)))]))
        refine OGo.st (fun _ kz => XS.iload X167.here hx rfl (hb hby at_139) rfl kz) ?_
        show OGo p.tables e below Φ (T167.setTop (mkF m 141 #[.val (.int xk), .val (.int xa), .val (.int xb), .val (.ref b1), .val (.ref b74), .val (.int (0 : Int32)), .val (.int (1 : Int32)), .val (.int (1 : Int32)), .val (.int (3 : Int32)), .val (.int (1 : Int32))] [(.int (1 : Int32)), (.int (own_ap0 (1 : Int32) (1 : Int32)))]))
        by_cases hc168 : (own_ap0 (1 : Int32) (1 : Int32)) = (1 : Int32)
        · refine OGo.st (fun _ kz => XS.icmpNo X167.here hx rfl (hb hby at_141) rfl (XT.ii_ne_f hc168) kz) ?_
          show OGo p.tables e below Φ (T167.setTop (mkF m 144 #[.val (.int xk), .val (.int xa), .val (.int xb), .val (.ref b1), .val (.ref b74), .val (.int (0 : Int32)), .val (.int (1 : Int32)), .val (.int (1 : Int32)), .val (.int (3 : Int32)), .val (.int (1 : Int32))] []))
          refine OGo.st (fun _ kz => XS.iconst X167.here hx rfl (hb hby at_144) kz) ?_
          show OGo p.tables e below Φ (T167.setTop (mkF m 145 #[.val (.int xk), .val (.int xa), .val (.int xb), .val (.ref b1), .val (.ref b74), .val (.int (0 : Int32)), .val (.int (1 : Int32)), .val (.int (1 : Int32)), .val (.int (3 : Int32)), .val (.int (1 : Int32))] [(.int (1 : Int32))]))
          refine OGo.st (fun _ kz => XS.goto X167.here hx rfl (pc0 := 145) (pc' := 149) rfl (hb hby at_145) (by decide) (by decide) kz) ?_
          show OGo p.tables e below Φ (T167.setTop (mkF m 149 #[.val (.int xk), .val (.int xa), .val (.int xb), .val (.ref b1), .val (.ref b74), .val (.int (0 : Int32)), .val (.int (1 : Int32)), .val (.int (1 : Int32)), .val (.int (3 : Int32)), .val (.int (1 : Int32))] [(.int (1 : Int32))]))
          refine OGo.fin X167 hlk (v := (some (.int (1 : Int32)))) (fun h => by rw [hret] at h; cases h) (by decide) (by decide) (fun fs hr => X167.ireturnOut hx hret rfl (by simp) (hb hby at_149) hr) fun U eU hF => hΦ _ _ _ ?_ hF
          rw [eU, e167]
          show Q_rm0 Z xk xa xb a0_ a1_ a2_ a3_ h0 n0 _ _ _
          exact ⟨rfl, N167⟩
        · refine OGo.st (fun _ kz => XS.icmpYes X167.here hx rfl (pc0 := 141) (pc' := 148) rfl (hb hby at_141) rfl (XT.ii_ne_t hc168) (by decide) (by decide) kz) ?_
          show OGo p.tables e below Φ (T167.setTop (mkF m 148 #[.val (.int xk), .val (.int xa), .val (.int xb), .val (.ref b1), .val (.ref b74), .val (.int (0 : Int32)), .val (.int (1 : Int32)), .val (.int (1 : Int32)), .val (.int (3 : Int32)), .val (.int (1 : Int32))] []))
          refine OGo.st (fun _ kz => XS.iconst X167.here hx rfl (hb hby at_148) kz) ?_
          show OGo p.tables e below Φ (T167.setTop (mkF m 149 #[.val (.int xk), .val (.int xa), .val (.int xb), .val (.ref b1), .val (.ref b74), .val (.int (0 : Int32)), .val (.int (1 : Int32)), .val (.int (1 : Int32)), .val (.int (3 : Int32)), .val (.int (1 : Int32))] [(.int (0 : Int32))]))
          exact absurd (by decide) hc168
  · rw [hk149]
    show OGo p.tables e below Φ (T134.setTop (mkF m 59 #[.val (.int xk), .val (.int xa), .val (.int xb), .val (.ref b1), .val (.ref b74), .val (.int (1 : Int32)), .unset, .unset, .unset, .unset] []))
    refine OGo.st (fun _ kz => XS.iloadN X134.here hx rfl (hb hby at_59) rfl kz) ?_
    show OGo p.tables e below Φ (T134.setTop (mkF m 60 #[.val (.int xk), .val (.int xa), .val (.int xb), .val (.ref b1), .val (.ref b74), .val (.int (1 : Int32)), .unset, .unset, .unset, .unset] [(.int xa)]))
    refine OGo.st (fun _ kz => XS.iconst X134.here hx rfl (hb hby at_60) kz) ?_
    show OGo p.tables e below Φ (T134.setTop (mkF m 61 #[.val (.int xk), .val (.int xa), .val (.int xb), .val (.ref b1), .val (.ref b74), .val (.int (1 : Int32)), .unset, .unset, .unset, .unset] [(.int (1 : Int32)), (.int xa)]))
    refine OGo.st (fun _ kz => XS.iand X134.here hx rfl (hb hby at_61) rfl kz) ?_
    show OGo p.tables e below Φ (T134.setTop (mkF m 62 #[.val (.int xk), .val (.int xa), .val (.int xb), .val (.ref b1), .val (.ref b74), .val (.int (1 : Int32)), .unset, .unset, .unset, .unset] [(.int (xa &&& (1 : Int32)))]))
    by_cases hc169 : (xa &&& (1 : Int32)) = 0
    · refine OGo.st (fun _ kz => XS.ifYes X134.here hx rfl (pc0 := 62) (pc' := 69) rfl (hb hby at_62) rfl (XT.i0_eq_t hc169) (by decide) (by decide) kz) ?_
      show OGo p.tables e below Φ (T134.setTop (mkF m 69 #[.val (.int xk), .val (.int xa), .val (.int xb), .val (.ref b1), .val (.ref b74), .val (.int (1 : Int32)), .unset, .unset, .unset, .unset] []))
      refine OGo.st (fun _ kz => XS.iconst X134.here hx rfl (hb hby at_69) kz) ?_
      show OGo p.tables e below Φ (T134.setTop (mkF m 70 #[.val (.int xk), .val (.int xa), .val (.int xb), .val (.ref b1), .val (.ref b74), .val (.int (1 : Int32)), .unset, .unset, .unset, .unset] [(.int (0 : Int32))]))
      refine OGo.st (fun _ kz => XS.istore X134.here hx rfl (hb hby at_70) rfl (l' := #[.val (.int xk), .val (.int xa), .val (.int xb), .val (.ref b1), .val (.ref b74), .val (.int (1 : Int32)), .val (.int (0 : Int32)), .unset, .unset, .unset]) rfl kz) ?_
      show OGo p.tables e below Φ (T134.setTop (mkF m 72 #[.val (.int xk), .val (.int xa), .val (.int xb), .val (.ref b1), .val (.ref b74), .val (.int (1 : Int32)), .val (.int (0 : Int32)), .unset, .unset, .unset] []))
      refine OGo.st (fun _ kz => XS.iloadN X134.here hx rfl (hb hby at_72) rfl kz) ?_
      show OGo p.tables e below Φ (T134.setTop (mkF m 73 #[.val (.int xk), .val (.int xa), .val (.int xb), .val (.ref b1), .val (.ref b74), .val (.int (1 : Int32)), .val (.int (0 : Int32)), .unset, .unset, .unset] [(.int xb)]))
      refine OGo.st (fun _ kz => XS.iconst X134.here hx rfl (hb hby at_73) kz) ?_
      show OGo p.tables e below Φ (T134.setTop (mkF m 74 #[.val (.int xk), .val (.int xa), .val (.int xb), .val (.ref b1), .val (.ref b74), .val (.int (1 : Int32)), .val (.int (0 : Int32)), .unset, .unset, .unset] [(.int (1 : Int32)), (.int xb)]))
      refine OGo.st (fun _ kz => XS.iand X134.here hx rfl (hb hby at_74) rfl kz) ?_
      show OGo p.tables e below Φ (T134.setTop (mkF m 75 #[.val (.int xk), .val (.int xa), .val (.int xb), .val (.ref b1), .val (.ref b74), .val (.int (1 : Int32)), .val (.int (0 : Int32)), .unset, .unset, .unset] [(.int (xb &&& (1 : Int32)))]))
      by_cases hc170 : (xb &&& (1 : Int32)) = 0
      · refine OGo.st (fun _ kz => XS.ifYes X134.here hx rfl (pc0 := 75) (pc' := 82) rfl (hb hby at_75) rfl (XT.i0_eq_t hc170) (by decide) (by decide) kz) ?_
        show OGo p.tables e below Φ (T134.setTop (mkF m 82 #[.val (.int xk), .val (.int xa), .val (.int xb), .val (.ref b1), .val (.ref b74), .val (.int (1 : Int32)), .val (.int (0 : Int32)), .unset, .unset, .unset] []))
        refine OGo.st (fun _ kz => XS.iconst X134.here hx rfl (hb hby at_82) kz) ?_
        show OGo p.tables e below Φ (T134.setTop (mkF m 83 #[.val (.int xk), .val (.int xa), .val (.int xb), .val (.ref b1), .val (.ref b74), .val (.int (1 : Int32)), .val (.int (0 : Int32)), .unset, .unset, .unset] [(.int (0 : Int32))]))
        refine OGo.st (fun _ kz => XS.istore X134.here hx rfl (hb hby at_83) rfl (l' := #[.val (.int xk), .val (.int xa), .val (.int xb), .val (.ref b1), .val (.ref b74), .val (.int (1 : Int32)), .val (.int (0 : Int32)), .val (.int (0 : Int32)), .unset, .unset]) rfl kz) ?_
        show OGo p.tables e below Φ (T134.setTop (mkF m 85 #[.val (.int xk), .val (.int xa), .val (.int xb), .val (.ref b1), .val (.ref b74), .val (.int (1 : Int32)), .val (.int (0 : Int32)), .val (.int (0 : Int32)), .unset, .unset] []))
        refine OGo.st (fun _ kz => XS.iload X134.here hx rfl (hb hby at_85) rfl kz) ?_
        show OGo p.tables e below Φ (T134.setTop (mkF m 87 #[.val (.int xk), .val (.int xa), .val (.int xb), .val (.ref b1), .val (.ref b74), .val (.int (1 : Int32)), .val (.int (0 : Int32)), .val (.int (0 : Int32)), .unset, .unset] [(.int (0 : Int32))]))
        refine OGo.st (fun _ kz => XS.ifYes X134.here hx rfl (pc0 := 87) (pc' := 94) rfl (hb hby at_87) rfl (XT.i0_eq_t (by decide)) (by decide) (by decide) kz) ?_
        show OGo p.tables e below Φ (T134.setTop (mkF m 94 #[.val (.int xk), .val (.int xa), .val (.int xb), .val (.ref b1), .val (.ref b74), .val (.int (1 : Int32)), .val (.int (0 : Int32)), .val (.int (0 : Int32)), .unset, .unset] []))
        refine OGo.st (fun _ kz => XS.iconst X134.here hx rfl (hb hby at_94) kz) ?_
        show OGo p.tables e below Φ (T134.setTop (mkF m 95 #[.val (.int xk), .val (.int xa), .val (.int xb), .val (.ref b1), .val (.ref b74), .val (.int (1 : Int32)), .val (.int (0 : Int32)), .val (.int (0 : Int32)), .unset, .unset] [(.int (0 : Int32))]))
        refine OGo.st (fun _ kz => XS.iload X134.here hx rfl (hb hby at_95) rfl kz) ?_
        show OGo p.tables e below Φ (T134.setTop (mkF m 97 #[.val (.int xk), .val (.int xa), .val (.int xb), .val (.ref b1), .val (.ref b74), .val (.int (1 : Int32)), .val (.int (0 : Int32)), .val (.int (0 : Int32)), .unset, .unset] [(.int (0 : Int32)), (.int (0 : Int32))]))
        refine OGo.st (fun _ kz => XS.ifYes X134.here hx rfl (pc0 := 97) (pc' := 104) rfl (hb hby at_97) rfl (XT.i0_eq_t (by decide)) (by decide) (by decide) kz) ?_
        show OGo p.tables e below Φ (T134.setTop (mkF m 104 #[.val (.int xk), .val (.int xa), .val (.int xb), .val (.ref b1), .val (.ref b74), .val (.int (1 : Int32)), .val (.int (0 : Int32)), .val (.int (0 : Int32)), .unset, .unset] [(.int (0 : Int32))]))
        refine OGo.st (fun _ kz => XS.iconst X134.here hx rfl (hb hby at_104) kz) ?_
        show OGo p.tables e below Φ (T134.setTop (mkF m 105 #[.val (.int xk), .val (.int xa), .val (.int xb), .val (.ref b1), .val (.ref b74), .val (.int (1 : Int32)), .val (.int (0 : Int32)), .val (.int (0 : Int32)), .unset, .unset] [(.int (0 : Int32)), (.int (0 : Int32))]))
        refine OGo.st (fun _ kz => XS.iadd X134.here hx rfl (hb hby at_105) rfl kz) ?_
        show OGo p.tables e below Φ (T134.setTop (mkF m 106 #[.val (.int xk), .val (.int xa), .val (.int xb), .val (.ref b1), .val (.ref b74), .val (.int (1 : Int32)), .val (.int (0 : Int32)), .val (.int (0 : Int32)), .unset, .unset] [(.int (0 : Int32))]))
        refine OGo.st (fun _ kz => XS.istore X134.here hx rfl (hb hby at_106) rfl (l' := #[.val (.int xk), .val (.int xa), .val (.int xb), .val (.ref b1), .val (.ref b74), .val (.int (1 : Int32)), .val (.int (0 : Int32)), .val (.int (0 : Int32)), .val (.int (0 : Int32)), .unset]) rfl kz) ?_
        show OGo p.tables e below Φ (T134.setTop (mkF m 108 #[.val (.int xk), .val (.int xa), .val (.int xb), .val (.ref b1), .val (.ref b74), .val (.int (1 : Int32)), .val (.int (0 : Int32)), .val (.int (0 : Int32)), .val (.int (0 : Int32)), .unset] []))
        refine OGo.st (fun _ kz => XS.aload X134.here hx rfl (hb hby at_108) rfl rfl kz) ?_
        show OGo p.tables e below Φ (T134.setTop (mkF m 110 #[.val (.int xk), .val (.int xa), .val (.int xb), .val (.ref b1), .val (.ref b74), .val (.int (1 : Int32)), .val (.int (0 : Int32)), .val (.int (0 : Int32)), .val (.int (0 : Int32)), .unset] [(.ref b74)]))
        refine OGo.st (fun _ kz => XS.iload X134.here hx rfl (hb hby at_110) rfl kz) ?_
        show OGo p.tables e below Φ (T134.setTop (mkF m 112 #[.val (.int xk), .val (.int xa), .val (.int xb), .val (.ref b1), .val (.ref b74), .val (.int (1 : Int32)), .val (.int (0 : Int32)), .val (.int (0 : Int32)), .val (.int (0 : Int32)), .unset] [(.int (1 : Int32)), (.ref b74)]))
        obtain ⟨cl171, Aq171, -, S171, M171, H171, -⟩ := id V134
        have in171 : ¬ ((1 : Int32) < 0 ∨ cl171.slots.size ≤ (1 : Int32).toNatClampNeg) := inb_of S171 ⟨by decide, by decide⟩
        have at171 : cl171.slots[(1 : Int32).toNatClampNeg]? = some (.int (14 : Int32)) := H171.at in171 rfl
        refine OGo.st (fun _ kz => X134.iaload hx (by rw [e134]; exact Aq171.1) (State.isArrayOf_alike hZ.alike Aq171.2.1) Aq171.2.2 in171 at171 (g := (mkF m 112 #[.val (.int xk), .val (.int xa), .val (.int xb), .val (.ref b1), .val (.ref b74), .val (.int (1 : Int32)), .val (.int (0 : Int32)), .val (.int (0 : Int32)), .val (.int (0 : Int32)), .unset] [(.int (1 : Int32)), (.ref b74)])) rfl rfl (hb hby at_112) _ kz) ?_
        show OGo p.tables e below Φ (T134.setTop (mkF m 113 #[.val (.int xk), .val (.int xa), .val (.int xb), .val (.ref b1), .val (.ref b74), .val (.int (1 : Int32)), .val (.int (0 : Int32)), .val (.int (0 : Int32)), .val (.int (0 : Int32)), .unset] [(.int (14 : Int32))]))
        refine OGo.st (fun _ kz => XS.iload X134.here hx rfl (hb hby at_113) rfl kz) ?_
        show OGo p.tables e below Φ (T134.setTop (mkF m 115 #[.val (.int xk), .val (.int xa), .val (.int xb), .val (.ref b1), .val (.ref b74), .val (.int (1 : Int32)), .val (.int (0 : Int32)), .val (.int (0 : Int32)), .val (.int (0 : Int32)), .unset] [(.int (0 : Int32)), (.int (14 : Int32))]))
        refine OGo.st (fun _ kz => XT.ishr X134.here hx rfl (hb hby at_115) rfl kz) ?_
        show OGo p.tables e below Φ (T134.setTop (mkF m 116 #[.val (.int xk), .val (.int xa), .val (.int xb), .val (.ref b1), .val (.ref b74), .val (.int (1 : Int32)), .val (.int (0 : Int32)), .val (.int (0 : Int32)), .val (.int (0 : Int32)), .unset] [(.int (14 : Int32))]))
        refine OGo.st (fun _ kz => XS.iconst X134.here hx rfl (hb hby at_116) kz) ?_
        show OGo p.tables e below Φ (T134.setTop (mkF m 117 #[.val (.int xk), .val (.int xa), .val (.int xb), .val (.ref b1), .val (.ref b74), .val (.int (1 : Int32)), .val (.int (0 : Int32)), .val (.int (0 : Int32)), .val (.int (0 : Int32)), .unset] [(.int (1 : Int32)), (.int (14 : Int32))]))
        refine OGo.st (fun _ kz => XS.iand X134.here hx rfl (hb hby at_117) rfl kz) ?_
        show OGo p.tables e below Φ (T134.setTop (mkF m 118 #[.val (.int xk), .val (.int xa), .val (.int xb), .val (.ref b1), .val (.ref b74), .val (.int (1 : Int32)), .val (.int (0 : Int32)), .val (.int (0 : Int32)), .val (.int (0 : Int32)), .unset] [(.int (0 : Int32))]))
        refine OGo.st (fun _ kz => XS.ifYes X134.here hx rfl (pc0 := 118) (pc' := 125) rfl (hb hby at_118) rfl (XT.i0_eq_t (by decide)) (by decide) (by decide) kz) ?_
        show OGo p.tables e below Φ (T134.setTop (mkF m 125 #[.val (.int xk), .val (.int xa), .val (.int xb), .val (.ref b1), .val (.ref b74), .val (.int (1 : Int32)), .val (.int (0 : Int32)), .val (.int (0 : Int32)), .val (.int (0 : Int32)), .unset] []))
        refine OGo.st (fun _ kz => XS.iconst X134.here hx rfl (hb hby at_125) kz) ?_
        show OGo p.tables e below Φ (T134.setTop (mkF m 126 #[.val (.int xk), .val (.int xa), .val (.int xb), .val (.ref b1), .val (.ref b74), .val (.int (1 : Int32)), .val (.int (0 : Int32)), .val (.int (0 : Int32)), .val (.int (0 : Int32)), .unset] [(.int (0 : Int32))]))
        refine OGo.st (fun _ kz => XS.istore X134.here hx rfl (hb hby at_126) rfl (l' := #[.val (.int xk), .val (.int xa), .val (.int xb), .val (.ref b1), .val (.ref b74), .val (.int (1 : Int32)), .val (.int (0 : Int32)), .val (.int (0 : Int32)), .val (.int (0 : Int32)), .val (.int (0 : Int32))]) rfl kz) ?_
        show OGo p.tables e below Φ (T134.setTop (mkF m 128 #[.val (.int xk), .val (.int xa), .val (.int xb), .val (.ref b1), .val (.ref b74), .val (.int (1 : Int32)), .val (.int (0 : Int32)), .val (.int (0 : Int32)), .val (.int (0 : Int32)), .val (.int (0 : Int32))] []))
        refine OGo.st (fun _ kz => XS.aloadN X134.here hx rfl (hb hby at_128) rfl rfl kz) ?_
        show OGo p.tables e below Φ (T134.setTop (mkF m 129 #[.val (.int xk), .val (.int xa), .val (.int xb), .val (.ref b1), .val (.ref b74), .val (.int (1 : Int32)), .val (.int (0 : Int32)), .val (.int (0 : Int32)), .val (.int (0 : Int32)), .val (.int (0 : Int32))] [(.ref b1)]))
        refine OGo.st (fun _ kz => XS.iload X134.here hx rfl (hb hby at_129) rfl kz) ?_
        show OGo p.tables e below Φ (T134.setTop (mkF m 131 #[.val (.int xk), .val (.int xa), .val (.int xb), .val (.ref b1), .val (.ref b74), .val (.int (1 : Int32)), .val (.int (0 : Int32)), .val (.int (0 : Int32)), .val (.int (0 : Int32)), .val (.int (0 : Int32))] [(.int (1 : Int32)), (.ref b1)]))
        obtain ⟨cl172, Aq172, -, S172, M172, H172, -⟩ := id F148
        have in172 : ¬ ((1 : Int32) < 0 ∨ cl172.slots.size ≤ (1 : Int32).toNatClampNeg) := inb_of S172 ⟨by decide, by decide⟩
        have at172 : cl172.slots[(1 : Int32).toNatClampNeg]? = some (.ref a1_) := H172.at in172 rfl
        refine OGo.st (fun _ kz => X134.aaload hx (by rw [e134]; exact Aq172.1) (State.isArrayOf_alike hZ.alike Aq172.2.1) rfl Aq172.2.2 in172 at172 (g := (mkF m 131 #[.val (.int xk), .val (.int xa), .val (.int xb), .val (.ref b1), .val (.ref b74), .val (.int (1 : Int32)), .val (.int (0 : Int32)), .val (.int (0 : Int32)), .val (.int (0 : Int32)), .val (.int (0 : Int32))] [(.int (1 : Int32)), (.ref b1)])) rfl rfl (hb hby at_131) _ kz) ?_
        show OGo p.tables e below Φ (T134.setTop (mkF m 132 #[.val (.int xk), .val (.int xa), .val (.int xb), .val (.ref b1), .val (.ref b74), .val (.int (1 : Int32)), .val (.int (0 : Int32)), .val (.int (0 : Int32)), .val (.int (0 : Int32)), .val (.int (0 : Int32))] [(.ref a1_)]))
        refine OGo.st (fun _ kz => XS.iload X134.here hx rfl (hb hby at_132) rfl kz) ?_
        show OGo p.tables e below Φ (T134.setTop (mkF m 134 #[.val (.int xk), .val (.int xa), .val (.int xb), .val (.ref b1), .val (.ref b74), .val (.int (1 : Int32)), .val (.int (0 : Int32)), .val (.int (0 : Int32)), .val (.int (0 : Int32)), .val (.int (0 : Int32))] [(.int (0 : Int32)), (.ref a1_)]))
        refine OGo.st (fun _ kz => XS.iload X134.here hx rfl (hb hby at_134) rfl kz) ?_
        show OGo p.tables e below Φ (T134.setTop (mkF m 136 #[.val (.int xk), .val (.int xa), .val (.int xb), .val (.ref b1), .val (.ref b74), .val (.int (1 : Int32)), .val (.int (0 : Int32)), .val (.int (0 : Int32)), .val (.int (0 : Int32)), .val (.int (0 : Int32))] [(.int (0 : Int32)), (.int (0 : Int32)), (.ref a1_)]))
        obtain ⟨_, T173, L173, X173, hQ173, st173⟩ := own_callVi X134 hx hZ hown (ow13 hw) (ow14 hw) (notFace_of_selects (args := #[]) (mvT hZ (ow16 hw))) (ow16 hw) (ow15 hw) (ow3 hw) (ow17 hw) (by decide) (rm2_1 l Z a0 hw [] a1_ (0 : Int32) (0 : Int32) h134 n0 Zs134 F140 F139) e134 (W := 0) (by decide) (by decide) (by decide) (by decide) F139 (pc := 136) (ls := #[.val (.int xk), .val (.int xa), .val (.int xb), .val (.ref b1), .val (.ref b74), .val (.int (1 : Int32)), .val (.int (0 : Int32)), .val (.int (0 : Int32)), .val (.int (0 : Int32)), .val (.int (0 : Int32))]) (stk := [(.int (0 : Int32)), (.int (0 : Int32)), (.ref a1_)]) (by rw [hml]; rfl) (argsL := [(.int (0 : Int32)), (.int (0 : Int32))]) (rest := []) (lenOf pd1 rfl) rfl rfl (Nat.le_of_eq rfl) (hb hby at_136)
        obtain ⟨rfl, Nq173, e173⟩ := hQ173
        have N173 := Fr.app N134 Nq173
        refine OGo.st st173 ?_
        show OGo p.tables e below Φ (T173.setTop (mkF m 139 #[.val (.int xk), .val (.int xa), .val (.int xb), .val (.ref b1), .val (.ref b74), .val (.int (1 : Int32)), .val (.int (0 : Int32)), .val (.int (0 : Int32)), .val (.int (0 : Int32)), .val (.int (0 : Int32))] [(.int (own_ap1 (0 : Int32) (0 : Int32)))]))
        refine OGo.st (fun _ kz => XS.iload X173.here hx rfl (hb hby at_139) rfl kz) ?_
        show OGo p.tables e below Φ (T173.setTop (mkF m 141 #[.val (.int xk), .val (.int xa), .val (.int xb), .val (.ref b1), .val (.ref b74), .val (.int (1 : Int32)), .val (.int (0 : Int32)), .val (.int (0 : Int32)), .val (.int (0 : Int32)), .val (.int (0 : Int32))] [(.int (0 : Int32)), (.int (own_ap1 (0 : Int32) (0 : Int32)))]))
        by_cases hc174 : (own_ap1 (0 : Int32) (0 : Int32)) = (0 : Int32)
        · refine OGo.st (fun _ kz => XS.icmpNo X173.here hx rfl (hb hby at_141) rfl (XT.ii_ne_f hc174) kz) ?_
          show OGo p.tables e below Φ (T173.setTop (mkF m 144 #[.val (.int xk), .val (.int xa), .val (.int xb), .val (.ref b1), .val (.ref b74), .val (.int (1 : Int32)), .val (.int (0 : Int32)), .val (.int (0 : Int32)), .val (.int (0 : Int32)), .val (.int (0 : Int32))] []))
          refine OGo.st (fun _ kz => XS.iconst X173.here hx rfl (hb hby at_144) kz) ?_
          show OGo p.tables e below Φ (T173.setTop (mkF m 145 #[.val (.int xk), .val (.int xa), .val (.int xb), .val (.ref b1), .val (.ref b74), .val (.int (1 : Int32)), .val (.int (0 : Int32)), .val (.int (0 : Int32)), .val (.int (0 : Int32)), .val (.int (0 : Int32))] [(.int (1 : Int32))]))
          refine OGo.st (fun _ kz => XS.goto X173.here hx rfl (pc0 := 145) (pc' := 149) rfl (hb hby at_145) (by decide) (by decide) kz) ?_
          show OGo p.tables e below Φ (T173.setTop (mkF m 149 #[.val (.int xk), .val (.int xa), .val (.int xb), .val (.ref b1), .val (.ref b74), .val (.int (1 : Int32)), .val (.int (0 : Int32)), .val (.int (0 : Int32)), .val (.int (0 : Int32)), .val (.int (0 : Int32))] [(.int (1 : Int32))]))
          refine OGo.fin X173 hlk (v := (some (.int (1 : Int32)))) (fun h => by rw [hret] at h; cases h) (by decide) (by decide) (fun fs hr => X173.ireturnOut hx hret rfl (by simp) (hb hby at_149) hr) fun U eU hF => hΦ _ _ _ ?_ hF
          rw [eU, e173]
          show Q_rm0 Z xk xa xb a0_ a1_ a2_ a3_ h0 n0 _ _ _
          exact ⟨rfl, N173⟩
        · refine OGo.st (fun _ kz => XS.icmpYes X173.here hx rfl (pc0 := 141) (pc' := 148) rfl (hb hby at_141) rfl (XT.ii_ne_t hc174) (by decide) (by decide) kz) ?_
          show OGo p.tables e below Φ (T173.setTop (mkF m 148 #[.val (.int xk), .val (.int xa), .val (.int xb), .val (.ref b1), .val (.ref b74), .val (.int (1 : Int32)), .val (.int (0 : Int32)), .val (.int (0 : Int32)), .val (.int (0 : Int32)), .val (.int (0 : Int32))] []))
          refine OGo.st (fun _ kz => XS.iconst X173.here hx rfl (hb hby at_148) kz) ?_
          show OGo p.tables e below Φ (T173.setTop (mkF m 149 #[.val (.int xk), .val (.int xa), .val (.int xb), .val (.ref b1), .val (.ref b74), .val (.int (1 : Int32)), .val (.int (0 : Int32)), .val (.int (0 : Int32)), .val (.int (0 : Int32)), .val (.int (0 : Int32))] [(.int (0 : Int32))]))
          exact absurd (by decide) hc174
      · refine OGo.st (fun _ kz => XS.ifNo X134.here hx rfl (hb hby at_75) rfl (XT.i0_eq_f hc170) kz) ?_
        show OGo p.tables e below Φ (T134.setTop (mkF m 78 #[.val (.int xk), .val (.int xa), .val (.int xb), .val (.ref b1), .val (.ref b74), .val (.int (1 : Int32)), .val (.int (0 : Int32)), .unset, .unset, .unset] []))
        refine OGo.st (fun _ kz => XS.iconst X134.here hx rfl (hb hby at_78) kz) ?_
        show OGo p.tables e below Φ (T134.setTop (mkF m 79 #[.val (.int xk), .val (.int xa), .val (.int xb), .val (.ref b1), .val (.ref b74), .val (.int (1 : Int32)), .val (.int (0 : Int32)), .unset, .unset, .unset] [(.int (1 : Int32))]))
        refine OGo.st (fun _ kz => XS.goto X134.here hx rfl (pc0 := 79) (pc' := 83) rfl (hb hby at_79) (by decide) (by decide) kz) ?_
        show OGo p.tables e below Φ (T134.setTop (mkF m 83 #[.val (.int xk), .val (.int xa), .val (.int xb), .val (.ref b1), .val (.ref b74), .val (.int (1 : Int32)), .val (.int (0 : Int32)), .unset, .unset, .unset] [(.int (1 : Int32))]))
        refine OGo.st (fun _ kz => XS.istore X134.here hx rfl (hb hby at_83) rfl (l' := #[.val (.int xk), .val (.int xa), .val (.int xb), .val (.ref b1), .val (.ref b74), .val (.int (1 : Int32)), .val (.int (0 : Int32)), .val (.int (1 : Int32)), .unset, .unset]) rfl kz) ?_
        show OGo p.tables e below Φ (T134.setTop (mkF m 85 #[.val (.int xk), .val (.int xa), .val (.int xb), .val (.ref b1), .val (.ref b74), .val (.int (1 : Int32)), .val (.int (0 : Int32)), .val (.int (1 : Int32)), .unset, .unset] []))
        refine OGo.st (fun _ kz => XS.iload X134.here hx rfl (hb hby at_85) rfl kz) ?_
        show OGo p.tables e below Φ (T134.setTop (mkF m 87 #[.val (.int xk), .val (.int xa), .val (.int xb), .val (.ref b1), .val (.ref b74), .val (.int (1 : Int32)), .val (.int (0 : Int32)), .val (.int (1 : Int32)), .unset, .unset] [(.int (0 : Int32))]))
        refine OGo.st (fun _ kz => XS.ifYes X134.here hx rfl (pc0 := 87) (pc' := 94) rfl (hb hby at_87) rfl (XT.i0_eq_t (by decide)) (by decide) (by decide) kz) ?_
        show OGo p.tables e below Φ (T134.setTop (mkF m 94 #[.val (.int xk), .val (.int xa), .val (.int xb), .val (.ref b1), .val (.ref b74), .val (.int (1 : Int32)), .val (.int (0 : Int32)), .val (.int (1 : Int32)), .unset, .unset] []))
        refine OGo.st (fun _ kz => XS.iconst X134.here hx rfl (hb hby at_94) kz) ?_
        show OGo p.tables e below Φ (T134.setTop (mkF m 95 #[.val (.int xk), .val (.int xa), .val (.int xb), .val (.ref b1), .val (.ref b74), .val (.int (1 : Int32)), .val (.int (0 : Int32)), .val (.int (1 : Int32)), .unset, .unset] [(.int (0 : Int32))]))
        refine OGo.st (fun _ kz => XS.iload X134.here hx rfl (hb hby at_95) rfl kz) ?_
        show OGo p.tables e below Φ (T134.setTop (mkF m 97 #[.val (.int xk), .val (.int xa), .val (.int xb), .val (.ref b1), .val (.ref b74), .val (.int (1 : Int32)), .val (.int (0 : Int32)), .val (.int (1 : Int32)), .unset, .unset] [(.int (1 : Int32)), (.int (0 : Int32))]))
        refine OGo.st (fun _ kz => XS.ifNo X134.here hx rfl (hb hby at_97) rfl (XT.i0_eq_f (by decide)) kz) ?_
        show OGo p.tables e below Φ (T134.setTop (mkF m 100 #[.val (.int xk), .val (.int xa), .val (.int xb), .val (.ref b1), .val (.ref b74), .val (.int (1 : Int32)), .val (.int (0 : Int32)), .val (.int (1 : Int32)), .unset, .unset] [(.int (0 : Int32))]))
        refine OGo.st (fun _ kz => XS.iconst X134.here hx rfl (hb hby at_100) kz) ?_
        show OGo p.tables e below Φ (T134.setTop (mkF m 101 #[.val (.int xk), .val (.int xa), .val (.int xb), .val (.ref b1), .val (.ref b74), .val (.int (1 : Int32)), .val (.int (0 : Int32)), .val (.int (1 : Int32)), .unset, .unset] [(.int (1 : Int32)), (.int (0 : Int32))]))
        refine OGo.st (fun _ kz => XS.goto X134.here hx rfl (pc0 := 101) (pc' := 105) rfl (hb hby at_101) (by decide) (by decide) kz) ?_
        show OGo p.tables e below Φ (T134.setTop (mkF m 105 #[.val (.int xk), .val (.int xa), .val (.int xb), .val (.ref b1), .val (.ref b74), .val (.int (1 : Int32)), .val (.int (0 : Int32)), .val (.int (1 : Int32)), .unset, .unset] [(.int (1 : Int32)), (.int (0 : Int32))]))
        refine OGo.st (fun _ kz => XS.iadd X134.here hx rfl (hb hby at_105) rfl kz) ?_
        show OGo p.tables e below Φ (T134.setTop (mkF m 106 #[.val (.int xk), .val (.int xa), .val (.int xb), .val (.ref b1), .val (.ref b74), .val (.int (1 : Int32)), .val (.int (0 : Int32)), .val (.int (1 : Int32)), .unset, .unset] [(.int (1 : Int32))]))
        refine OGo.st (fun _ kz => XS.istore X134.here hx rfl (hb hby at_106) rfl (l' := #[.val (.int xk), .val (.int xa), .val (.int xb), .val (.ref b1), .val (.ref b74), .val (.int (1 : Int32)), .val (.int (0 : Int32)), .val (.int (1 : Int32)), .val (.int (1 : Int32)), .unset]) rfl kz) ?_
        show OGo p.tables e below Φ (T134.setTop (mkF m 108 #[.val (.int xk), .val (.int xa), .val (.int xb), .val (.ref b1), .val (.ref b74), .val (.int (1 : Int32)), .val (.int (0 : Int32)), .val (.int (1 : Int32)), .val (.int (1 : Int32)), .unset] []))
        refine OGo.st (fun _ kz => XS.aload X134.here hx rfl (hb hby at_108) rfl rfl kz) ?_
        show OGo p.tables e below Φ (T134.setTop (mkF m 110 #[.val (.int xk), .val (.int xa), .val (.int xb), .val (.ref b1), .val (.ref b74), .val (.int (1 : Int32)), .val (.int (0 : Int32)), .val (.int (1 : Int32)), .val (.int (1 : Int32)), .unset] [(.ref b74)]))
        refine OGo.st (fun _ kz => XS.iload X134.here hx rfl (hb hby at_110) rfl kz) ?_
        show OGo p.tables e below Φ (T134.setTop (mkF m 112 #[.val (.int xk), .val (.int xa), .val (.int xb), .val (.ref b1), .val (.ref b74), .val (.int (1 : Int32)), .val (.int (0 : Int32)), .val (.int (1 : Int32)), .val (.int (1 : Int32)), .unset] [(.int (1 : Int32)), (.ref b74)]))
        obtain ⟨cl175, Aq175, -, S175, M175, H175, -⟩ := id V134
        have in175 : ¬ ((1 : Int32) < 0 ∨ cl175.slots.size ≤ (1 : Int32).toNatClampNeg) := inb_of S175 ⟨by decide, by decide⟩
        have at175 : cl175.slots[(1 : Int32).toNatClampNeg]? = some (.int (14 : Int32)) := H175.at in175 rfl
        refine OGo.st (fun _ kz => X134.iaload hx (by rw [e134]; exact Aq175.1) (State.isArrayOf_alike hZ.alike Aq175.2.1) Aq175.2.2 in175 at175 (g := (mkF m 112 #[.val (.int xk), .val (.int xa), .val (.int xb), .val (.ref b1), .val (.ref b74), .val (.int (1 : Int32)), .val (.int (0 : Int32)), .val (.int (1 : Int32)), .val (.int (1 : Int32)), .unset] [(.int (1 : Int32)), (.ref b74)])) rfl rfl (hb hby at_112) _ kz) ?_
        show OGo p.tables e below Φ (T134.setTop (mkF m 113 #[.val (.int xk), .val (.int xa), .val (.int xb), .val (.ref b1), .val (.ref b74), .val (.int (1 : Int32)), .val (.int (0 : Int32)), .val (.int (1 : Int32)), .val (.int (1 : Int32)), .unset] [(.int (14 : Int32))]))
        refine OGo.st (fun _ kz => XS.iload X134.here hx rfl (hb hby at_113) rfl kz) ?_
        show OGo p.tables e below Φ (T134.setTop (mkF m 115 #[.val (.int xk), .val (.int xa), .val (.int xb), .val (.ref b1), .val (.ref b74), .val (.int (1 : Int32)), .val (.int (0 : Int32)), .val (.int (1 : Int32)), .val (.int (1 : Int32)), .unset] [(.int (1 : Int32)), (.int (14 : Int32))]))
        refine OGo.st (fun _ kz => XT.ishr X134.here hx rfl (hb hby at_115) rfl kz) ?_
        show OGo p.tables e below Φ (T134.setTop (mkF m 116 #[.val (.int xk), .val (.int xa), .val (.int xb), .val (.ref b1), .val (.ref b74), .val (.int (1 : Int32)), .val (.int (0 : Int32)), .val (.int (1 : Int32)), .val (.int (1 : Int32)), .unset] [(.int (7 : Int32))]))
        refine OGo.st (fun _ kz => XS.iconst X134.here hx rfl (hb hby at_116) kz) ?_
        show OGo p.tables e below Φ (T134.setTop (mkF m 117 #[.val (.int xk), .val (.int xa), .val (.int xb), .val (.ref b1), .val (.ref b74), .val (.int (1 : Int32)), .val (.int (0 : Int32)), .val (.int (1 : Int32)), .val (.int (1 : Int32)), .unset] [(.int (1 : Int32)), (.int (7 : Int32))]))
        refine OGo.st (fun _ kz => XS.iand X134.here hx rfl (hb hby at_117) rfl kz) ?_
        show OGo p.tables e below Φ (T134.setTop (mkF m 118 #[.val (.int xk), .val (.int xa), .val (.int xb), .val (.ref b1), .val (.ref b74), .val (.int (1 : Int32)), .val (.int (0 : Int32)), .val (.int (1 : Int32)), .val (.int (1 : Int32)), .unset] [(.int (1 : Int32))]))
        refine OGo.st (fun _ kz => XS.ifNo X134.here hx rfl (hb hby at_118) rfl (XT.i0_eq_f (by decide)) kz) ?_
        show OGo p.tables e below Φ (T134.setTop (mkF m 121 #[.val (.int xk), .val (.int xa), .val (.int xb), .val (.ref b1), .val (.ref b74), .val (.int (1 : Int32)), .val (.int (0 : Int32)), .val (.int (1 : Int32)), .val (.int (1 : Int32)), .unset] []))
        refine OGo.st (fun _ kz => XS.iconst X134.here hx rfl (hb hby at_121) kz) ?_
        show OGo p.tables e below Φ (T134.setTop (mkF m 122 #[.val (.int xk), .val (.int xa), .val (.int xb), .val (.ref b1), .val (.ref b74), .val (.int (1 : Int32)), .val (.int (0 : Int32)), .val (.int (1 : Int32)), .val (.int (1 : Int32)), .unset] [(.int (1 : Int32))]))
        refine OGo.st (fun _ kz => XS.goto X134.here hx rfl (pc0 := 122) (pc' := 126) rfl (hb hby at_122) (by decide) (by decide) kz) ?_
        show OGo p.tables e below Φ (T134.setTop (mkF m 126 #[.val (.int xk), .val (.int xa), .val (.int xb), .val (.ref b1), .val (.ref b74), .val (.int (1 : Int32)), .val (.int (0 : Int32)), .val (.int (1 : Int32)), .val (.int (1 : Int32)), .unset] [(.int (1 : Int32))]))
        refine OGo.st (fun _ kz => XS.istore X134.here hx rfl (hb hby at_126) rfl (l' := #[.val (.int xk), .val (.int xa), .val (.int xb), .val (.ref b1), .val (.ref b74), .val (.int (1 : Int32)), .val (.int (0 : Int32)), .val (.int (1 : Int32)), .val (.int (1 : Int32)), .val (.int (1 : Int32))]) rfl kz) ?_
        show OGo p.tables e below Φ (T134.setTop (mkF m 128 #[.val (.int xk), .val (.int xa), .val (.int xb), .val (.ref b1), .val (.ref b74), .val (.int (1 : Int32)), .val (.int (0 : Int32)), .val (.int (1 : Int32)), .val (.int (1 : Int32)), .val (.int (1 : Int32))] []))
        refine OGo.st (fun _ kz => XS.aloadN X134.here hx rfl (hb hby at_128) rfl rfl kz) ?_
        show OGo p.tables e below Φ (T134.setTop (mkF m 129 #[.val (.int xk), .val (.int xa), .val (.int xb), .val (.ref b1), .val (.ref b74), .val (.int (1 : Int32)), .val (.int (0 : Int32)), .val (.int (1 : Int32)), .val (.int (1 : Int32)), .val (.int (1 : Int32))] [(.ref b1)]))
        refine OGo.st (fun _ kz => XS.iload X134.here hx rfl (hb hby at_129) rfl kz) ?_
        show OGo p.tables e below Φ (T134.setTop (mkF m 131 #[.val (.int xk), .val (.int xa), .val (.int xb), .val (.ref b1), .val (.ref b74), .val (.int (1 : Int32)), .val (.int (0 : Int32)), .val (.int (1 : Int32)), .val (.int (1 : Int32)), .val (.int (1 : Int32))] [(.int (1 : Int32)), (.ref b1)]))
        obtain ⟨cl176, Aq176, -, S176, M176, H176, -⟩ := id F148
        have in176 : ¬ ((1 : Int32) < 0 ∨ cl176.slots.size ≤ (1 : Int32).toNatClampNeg) := inb_of S176 ⟨by decide, by decide⟩
        have at176 : cl176.slots[(1 : Int32).toNatClampNeg]? = some (.ref a1_) := H176.at in176 rfl
        refine OGo.st (fun _ kz => X134.aaload hx (by rw [e134]; exact Aq176.1) (State.isArrayOf_alike hZ.alike Aq176.2.1) rfl Aq176.2.2 in176 at176 (g := (mkF m 131 #[.val (.int xk), .val (.int xa), .val (.int xb), .val (.ref b1), .val (.ref b74), .val (.int (1 : Int32)), .val (.int (0 : Int32)), .val (.int (1 : Int32)), .val (.int (1 : Int32)), .val (.int (1 : Int32))] [(.int (1 : Int32)), (.ref b1)])) rfl rfl (hb hby at_131) _ kz) ?_
        show OGo p.tables e below Φ (T134.setTop (mkF m 132 #[.val (.int xk), .val (.int xa), .val (.int xb), .val (.ref b1), .val (.ref b74), .val (.int (1 : Int32)), .val (.int (0 : Int32)), .val (.int (1 : Int32)), .val (.int (1 : Int32)), .val (.int (1 : Int32))] [(.ref a1_)]))
        refine OGo.st (fun _ kz => XS.iload X134.here hx rfl (hb hby at_132) rfl kz) ?_
        show OGo p.tables e below Φ (T134.setTop (mkF m 134 #[.val (.int xk), .val (.int xa), .val (.int xb), .val (.ref b1), .val (.ref b74), .val (.int (1 : Int32)), .val (.int (0 : Int32)), .val (.int (1 : Int32)), .val (.int (1 : Int32)), .val (.int (1 : Int32))] [(.int (0 : Int32)), (.ref a1_)]))
        refine OGo.st (fun _ kz => XS.iload X134.here hx rfl (hb hby at_134) rfl kz) ?_
        show OGo p.tables e below Φ (T134.setTop (mkF m 136 #[.val (.int xk), .val (.int xa), .val (.int xb), .val (.ref b1), .val (.ref b74), .val (.int (1 : Int32)), .val (.int (0 : Int32)), .val (.int (1 : Int32)), .val (.int (1 : Int32)), .val (.int (1 : Int32))] [(.int (1 : Int32)), (.int (0 : Int32)), (.ref a1_)]))
        obtain ⟨_, T177, L177, X177, hQ177, st177⟩ := own_callVi X134 hx hZ hown (ow13 hw) (ow14 hw) (notFace_of_selects (args := #[]) (mvT hZ (ow16 hw))) (ow16 hw) (ow15 hw) (ow3 hw) (ow17 hw) (by decide) (rm2_1 l Z a0 hw [] a1_ (0 : Int32) (1 : Int32) h134 n0 Zs134 F140 F139) e134 (W := 0) (by decide) (by decide) (by decide) (by decide) F139 (pc := 136) (ls := #[.val (.int xk), .val (.int xa), .val (.int xb), .val (.ref b1), .val (.ref b74), .val (.int (1 : Int32)), .val (.int (0 : Int32)), .val (.int (1 : Int32)), .val (.int (1 : Int32)), .val (.int (1 : Int32))]) (stk := [(.int (1 : Int32)), (.int (0 : Int32)), (.ref a1_)]) (by rw [hml]; rfl) (argsL := [(.int (0 : Int32)), (.int (1 : Int32))]) (rest := []) (lenOf pd1 rfl) rfl rfl (Nat.le_of_eq rfl) (hb hby at_136)
        obtain ⟨rfl, Nq177, e177⟩ := hQ177
        have N177 := Fr.app N134 Nq177
        refine OGo.st st177 ?_
        show OGo p.tables e below Φ (T177.setTop (mkF m 139 #[.val (.int xk), .val (.int xa), .val (.int xb), .val (.ref b1), .val (.ref b74), .val (.int (1 : Int32)), .val (.int (0 : Int32)), .val (.int (1 : Int32)), .val (.int (1 : Int32)), .val (.int (1 : Int32))] [(.int (own_ap1 (0 : Int32) (1 : Int32)))]))
        refine OGo.st (fun _ kz => XS.iload X177.here hx rfl (hb hby at_139) rfl kz) ?_
        show OGo p.tables e below Φ (T177.setTop (mkF m 141 #[.val (.int xk), .val (.int xa), .val (.int xb), .val (.ref b1), .val (.ref b74), .val (.int (1 : Int32)), .val (.int (0 : Int32)), .val (.int (1 : Int32)), .val (.int (1 : Int32)), .val (.int (1 : Int32))] [(.int (1 : Int32)), (.int (own_ap1 (0 : Int32) (1 : Int32)))]))
        by_cases hc178 : (own_ap1 (0 : Int32) (1 : Int32)) = (1 : Int32)
        · refine OGo.st (fun _ kz => XS.icmpNo X177.here hx rfl (hb hby at_141) rfl (XT.ii_ne_f hc178) kz) ?_
          show OGo p.tables e below Φ (T177.setTop (mkF m 144 #[.val (.int xk), .val (.int xa), .val (.int xb), .val (.ref b1), .val (.ref b74), .val (.int (1 : Int32)), .val (.int (0 : Int32)), .val (.int (1 : Int32)), .val (.int (1 : Int32)), .val (.int (1 : Int32))] []))
          refine OGo.st (fun _ kz => XS.iconst X177.here hx rfl (hb hby at_144) kz) ?_
          show OGo p.tables e below Φ (T177.setTop (mkF m 145 #[.val (.int xk), .val (.int xa), .val (.int xb), .val (.ref b1), .val (.ref b74), .val (.int (1 : Int32)), .val (.int (0 : Int32)), .val (.int (1 : Int32)), .val (.int (1 : Int32)), .val (.int (1 : Int32))] [(.int (1 : Int32))]))
          refine OGo.st (fun _ kz => XS.goto X177.here hx rfl (pc0 := 145) (pc' := 149) rfl (hb hby at_145) (by decide) (by decide) kz) ?_
          show OGo p.tables e below Φ (T177.setTop (mkF m 149 #[.val (.int xk), .val (.int xa), .val (.int xb), .val (.ref b1), .val (.ref b74), .val (.int (1 : Int32)), .val (.int (0 : Int32)), .val (.int (1 : Int32)), .val (.int (1 : Int32)), .val (.int (1 : Int32))] [(.int (1 : Int32))]))
          refine OGo.fin X177 hlk (v := (some (.int (1 : Int32)))) (fun h => by rw [hret] at h; cases h) (by decide) (by decide) (fun fs hr => X177.ireturnOut hx hret rfl (by simp) (hb hby at_149) hr) fun U eU hF => hΦ _ _ _ ?_ hF
          rw [eU, e177]
          show Q_rm0 Z xk xa xb a0_ a1_ a2_ a3_ h0 n0 _ _ _
          exact ⟨rfl, N177⟩
        · refine OGo.st (fun _ kz => XS.icmpYes X177.here hx rfl (pc0 := 141) (pc' := 148) rfl (hb hby at_141) rfl (XT.ii_ne_t hc178) (by decide) (by decide) kz) ?_
          show OGo p.tables e below Φ (T177.setTop (mkF m 148 #[.val (.int xk), .val (.int xa), .val (.int xb), .val (.ref b1), .val (.ref b74), .val (.int (1 : Int32)), .val (.int (0 : Int32)), .val (.int (1 : Int32)), .val (.int (1 : Int32)), .val (.int (1 : Int32))] []))
          refine OGo.st (fun _ kz => XS.iconst X177.here hx rfl (hb hby at_148) kz) ?_
          show OGo p.tables e below Φ (T177.setTop (mkF m 149 #[.val (.int xk), .val (.int xa), .val (.int xb), .val (.ref b1), .val (.ref b74), .val (.int (1 : Int32)), .val (.int (0 : Int32)), .val (.int (1 : Int32)), .val (.int (1 : Int32)), .val (.int (1 : Int32))] [(.int (0 : Int32))]))
          exact absurd (by decide) hc178
    · refine OGo.st (fun _ kz => XS.ifNo X134.here hx rfl (hb hby at_62) rfl (XT.i0_eq_f hc169) kz) ?_
      show OGo p.tables e below Φ (T134.setTop (mkF m 65 #[.val (.int xk), .val (.int xa), .val (.int xb), .val (.ref b1), .val (.ref b74), .val (.int (1 : Int32)), .unset, .unset, .unset, .unset] []))
      refine OGo.st (fun _ kz => XS.iconst X134.here hx rfl (hb hby at_65) kz) ?_
      show OGo p.tables e below Φ (T134.setTop (mkF m 66 #[.val (.int xk), .val (.int xa), .val (.int xb), .val (.ref b1), .val (.ref b74), .val (.int (1 : Int32)), .unset, .unset, .unset, .unset] [(.int (1 : Int32))]))
      refine OGo.st (fun _ kz => XS.goto X134.here hx rfl (pc0 := 66) (pc' := 70) rfl (hb hby at_66) (by decide) (by decide) kz) ?_
      show OGo p.tables e below Φ (T134.setTop (mkF m 70 #[.val (.int xk), .val (.int xa), .val (.int xb), .val (.ref b1), .val (.ref b74), .val (.int (1 : Int32)), .unset, .unset, .unset, .unset] [(.int (1 : Int32))]))
      refine OGo.st (fun _ kz => XS.istore X134.here hx rfl (hb hby at_70) rfl (l' := #[.val (.int xk), .val (.int xa), .val (.int xb), .val (.ref b1), .val (.ref b74), .val (.int (1 : Int32)), .val (.int (1 : Int32)), .unset, .unset, .unset]) rfl kz) ?_
      show OGo p.tables e below Φ (T134.setTop (mkF m 72 #[.val (.int xk), .val (.int xa), .val (.int xb), .val (.ref b1), .val (.ref b74), .val (.int (1 : Int32)), .val (.int (1 : Int32)), .unset, .unset, .unset] []))
      refine OGo.st (fun _ kz => XS.iloadN X134.here hx rfl (hb hby at_72) rfl kz) ?_
      show OGo p.tables e below Φ (T134.setTop (mkF m 73 #[.val (.int xk), .val (.int xa), .val (.int xb), .val (.ref b1), .val (.ref b74), .val (.int (1 : Int32)), .val (.int (1 : Int32)), .unset, .unset, .unset] [(.int xb)]))
      refine OGo.st (fun _ kz => XS.iconst X134.here hx rfl (hb hby at_73) kz) ?_
      show OGo p.tables e below Φ (T134.setTop (mkF m 74 #[.val (.int xk), .val (.int xa), .val (.int xb), .val (.ref b1), .val (.ref b74), .val (.int (1 : Int32)), .val (.int (1 : Int32)), .unset, .unset, .unset] [(.int (1 : Int32)), (.int xb)]))
      refine OGo.st (fun _ kz => XS.iand X134.here hx rfl (hb hby at_74) rfl kz) ?_
      show OGo p.tables e below Φ (T134.setTop (mkF m 75 #[.val (.int xk), .val (.int xa), .val (.int xb), .val (.ref b1), .val (.ref b74), .val (.int (1 : Int32)), .val (.int (1 : Int32)), .unset, .unset, .unset] [(.int (xb &&& (1 : Int32)))]))
      by_cases hc179 : (xb &&& (1 : Int32)) = 0
      · refine OGo.st (fun _ kz => XS.ifYes X134.here hx rfl (pc0 := 75) (pc' := 82) rfl (hb hby at_75) rfl (XT.i0_eq_t hc179) (by decide) (by decide) kz) ?_
        show OGo p.tables e below Φ (T134.setTop (mkF m 82 #[.val (.int xk), .val (.int xa), .val (.int xb), .val (.ref b1), .val (.ref b74), .val (.int (1 : Int32)), .val (.int (1 : Int32)), .unset, .unset, .unset] []))
        refine OGo.st (fun _ kz => XS.iconst X134.here hx rfl (hb hby at_82) kz) ?_
        show OGo p.tables e below Φ (T134.setTop (mkF m 83 #[.val (.int xk), .val (.int xa), .val (.int xb), .val (.ref b1), .val (.ref b74), .val (.int (1 : Int32)), .val (.int (1 : Int32)), .unset, .unset, .unset] [(.int (0 : Int32))]))
        refine OGo.st (fun _ kz => XS.istore X134.here hx rfl (hb hby at_83) rfl (l' := #[.val (.int xk), .val (.int xa), .val (.int xb), .val (.ref b1), .val (.ref b74), .val (.int (1 : Int32)), .val (.int (1 : Int32)), .val (.int (0 : Int32)), .unset, .unset]) rfl kz) ?_
        show OGo p.tables e below Φ (T134.setTop (mkF m 85 #[.val (.int xk), .val (.int xa), .val (.int xb), .val (.ref b1), .val (.ref b74), .val (.int (1 : Int32)), .val (.int (1 : Int32)), .val (.int (0 : Int32)), .unset, .unset] []))
        refine OGo.st (fun _ kz => XS.iload X134.here hx rfl (hb hby at_85) rfl kz) ?_
        show OGo p.tables e below Φ (T134.setTop (mkF m 87 #[.val (.int xk), .val (.int xa), .val (.int xb), .val (.ref b1), .val (.ref b74), .val (.int (1 : Int32)), .val (.int (1 : Int32)), .val (.int (0 : Int32)), .unset, .unset] [(.int (1 : Int32))]))
        refine OGo.st (fun _ kz => XS.ifNo X134.here hx rfl (hb hby at_87) rfl (XT.i0_eq_f (by decide)) kz) ?_
        show OGo p.tables e below Φ (T134.setTop (mkF m 90 #[.val (.int xk), .val (.int xa), .val (.int xb), .val (.ref b1), .val (.ref b74), .val (.int (1 : Int32)), .val (.int (1 : Int32)), .val (.int (0 : Int32)), .unset, .unset] []))
        refine OGo.st (fun _ kz => XS.iconst X134.here hx rfl (hb hby at_90) kz) ?_
        show OGo p.tables e below Φ (T134.setTop (mkF m 91 #[.val (.int xk), .val (.int xa), .val (.int xb), .val (.ref b1), .val (.ref b74), .val (.int (1 : Int32)), .val (.int (1 : Int32)), .val (.int (0 : Int32)), .unset, .unset] [(.int (2 : Int32))]))
        refine OGo.st (fun _ kz => XS.goto X134.here hx rfl (pc0 := 91) (pc' := 95) rfl (hb hby at_91) (by decide) (by decide) kz) ?_
        show OGo p.tables e below Φ (T134.setTop (mkF m 95 #[.val (.int xk), .val (.int xa), .val (.int xb), .val (.ref b1), .val (.ref b74), .val (.int (1 : Int32)), .val (.int (1 : Int32)), .val (.int (0 : Int32)), .unset, .unset] [(.int (2 : Int32))]))
        refine OGo.st (fun _ kz => XS.iload X134.here hx rfl (hb hby at_95) rfl kz) ?_
        show OGo p.tables e below Φ (T134.setTop (mkF m 97 #[.val (.int xk), .val (.int xa), .val (.int xb), .val (.ref b1), .val (.ref b74), .val (.int (1 : Int32)), .val (.int (1 : Int32)), .val (.int (0 : Int32)), .unset, .unset] [(.int (0 : Int32)), (.int (2 : Int32))]))
        refine OGo.st (fun _ kz => XS.ifYes X134.here hx rfl (pc0 := 97) (pc' := 104) rfl (hb hby at_97) rfl (XT.i0_eq_t (by decide)) (by decide) (by decide) kz) ?_
        show OGo p.tables e below Φ (T134.setTop (mkF m 104 #[.val (.int xk), .val (.int xa), .val (.int xb), .val (.ref b1), .val (.ref b74), .val (.int (1 : Int32)), .val (.int (1 : Int32)), .val (.int (0 : Int32)), .unset, .unset] [(.int (2 : Int32))]))
        refine OGo.st (fun _ kz => XS.iconst X134.here hx rfl (hb hby at_104) kz) ?_
        show OGo p.tables e below Φ (T134.setTop (mkF m 105 #[.val (.int xk), .val (.int xa), .val (.int xb), .val (.ref b1), .val (.ref b74), .val (.int (1 : Int32)), .val (.int (1 : Int32)), .val (.int (0 : Int32)), .unset, .unset] [(.int (0 : Int32)), (.int (2 : Int32))]))
        refine OGo.st (fun _ kz => XS.iadd X134.here hx rfl (hb hby at_105) rfl kz) ?_
        show OGo p.tables e below Φ (T134.setTop (mkF m 106 #[.val (.int xk), .val (.int xa), .val (.int xb), .val (.ref b1), .val (.ref b74), .val (.int (1 : Int32)), .val (.int (1 : Int32)), .val (.int (0 : Int32)), .unset, .unset] [(.int (2 : Int32))]))
        refine OGo.st (fun _ kz => XS.istore X134.here hx rfl (hb hby at_106) rfl (l' := #[.val (.int xk), .val (.int xa), .val (.int xb), .val (.ref b1), .val (.ref b74), .val (.int (1 : Int32)), .val (.int (1 : Int32)), .val (.int (0 : Int32)), .val (.int (2 : Int32)), .unset]) rfl kz) ?_
        show OGo p.tables e below Φ (T134.setTop (mkF m 108 #[.val (.int xk), .val (.int xa), .val (.int xb), .val (.ref b1), .val (.ref b74), .val (.int (1 : Int32)), .val (.int (1 : Int32)), .val (.int (0 : Int32)), .val (.int (2 : Int32)), .unset] []))
        refine OGo.st (fun _ kz => XS.aload X134.here hx rfl (hb hby at_108) rfl rfl kz) ?_
        show OGo p.tables e below Φ (T134.setTop (mkF m 110 #[.val (.int xk), .val (.int xa), .val (.int xb), .val (.ref b1), .val (.ref b74), .val (.int (1 : Int32)), .val (.int (1 : Int32)), .val (.int (0 : Int32)), .val (.int (2 : Int32)), .unset] [(.ref b74)]))
        refine OGo.st (fun _ kz => XS.iload X134.here hx rfl (hb hby at_110) rfl kz) ?_
        show OGo p.tables e below Φ (T134.setTop (mkF m 112 #[.val (.int xk), .val (.int xa), .val (.int xb), .val (.ref b1), .val (.ref b74), .val (.int (1 : Int32)), .val (.int (1 : Int32)), .val (.int (0 : Int32)), .val (.int (2 : Int32)), .unset] [(.int (1 : Int32)), (.ref b74)]))
        obtain ⟨cl180, Aq180, -, S180, M180, H180, -⟩ := id V134
        have in180 : ¬ ((1 : Int32) < 0 ∨ cl180.slots.size ≤ (1 : Int32).toNatClampNeg) := inb_of S180 ⟨by decide, by decide⟩
        have at180 : cl180.slots[(1 : Int32).toNatClampNeg]? = some (.int (14 : Int32)) := H180.at in180 rfl
        refine OGo.st (fun _ kz => X134.iaload hx (by rw [e134]; exact Aq180.1) (State.isArrayOf_alike hZ.alike Aq180.2.1) Aq180.2.2 in180 at180 (g := (mkF m 112 #[.val (.int xk), .val (.int xa), .val (.int xb), .val (.ref b1), .val (.ref b74), .val (.int (1 : Int32)), .val (.int (1 : Int32)), .val (.int (0 : Int32)), .val (.int (2 : Int32)), .unset] [(.int (1 : Int32)), (.ref b74)])) rfl rfl (hb hby at_112) _ kz) ?_
        show OGo p.tables e below Φ (T134.setTop (mkF m 113 #[.val (.int xk), .val (.int xa), .val (.int xb), .val (.ref b1), .val (.ref b74), .val (.int (1 : Int32)), .val (.int (1 : Int32)), .val (.int (0 : Int32)), .val (.int (2 : Int32)), .unset] [(.int (14 : Int32))]))
        refine OGo.st (fun _ kz => XS.iload X134.here hx rfl (hb hby at_113) rfl kz) ?_
        show OGo p.tables e below Φ (T134.setTop (mkF m 115 #[.val (.int xk), .val (.int xa), .val (.int xb), .val (.ref b1), .val (.ref b74), .val (.int (1 : Int32)), .val (.int (1 : Int32)), .val (.int (0 : Int32)), .val (.int (2 : Int32)), .unset] [(.int (2 : Int32)), (.int (14 : Int32))]))
        refine OGo.st (fun _ kz => XT.ishr X134.here hx rfl (hb hby at_115) rfl kz) ?_
        show OGo p.tables e below Φ (T134.setTop (mkF m 116 #[.val (.int xk), .val (.int xa), .val (.int xb), .val (.ref b1), .val (.ref b74), .val (.int (1 : Int32)), .val (.int (1 : Int32)), .val (.int (0 : Int32)), .val (.int (2 : Int32)), .unset] [(.int (3 : Int32))]))
        refine OGo.st (fun _ kz => XS.iconst X134.here hx rfl (hb hby at_116) kz) ?_
        show OGo p.tables e below Φ (T134.setTop (mkF m 117 #[.val (.int xk), .val (.int xa), .val (.int xb), .val (.ref b1), .val (.ref b74), .val (.int (1 : Int32)), .val (.int (1 : Int32)), .val (.int (0 : Int32)), .val (.int (2 : Int32)), .unset] [(.int (1 : Int32)), (.int (3 : Int32))]))
        refine OGo.st (fun _ kz => XS.iand X134.here hx rfl (hb hby at_117) rfl kz) ?_
        show OGo p.tables e below Φ (T134.setTop (mkF m 118 #[.val (.int xk), .val (.int xa), .val (.int xb), .val (.ref b1), .val (.ref b74), .val (.int (1 : Int32)), .val (.int (1 : Int32)), .val (.int (0 : Int32)), .val (.int (2 : Int32)), .unset] [(.int (1 : Int32))]))
        refine OGo.st (fun _ kz => XS.ifNo X134.here hx rfl (hb hby at_118) rfl (XT.i0_eq_f (by decide)) kz) ?_
        show OGo p.tables e below Φ (T134.setTop (mkF m 121 #[.val (.int xk), .val (.int xa), .val (.int xb), .val (.ref b1), .val (.ref b74), .val (.int (1 : Int32)), .val (.int (1 : Int32)), .val (.int (0 : Int32)), .val (.int (2 : Int32)), .unset] []))
        refine OGo.st (fun _ kz => XS.iconst X134.here hx rfl (hb hby at_121) kz) ?_
        show OGo p.tables e below Φ (T134.setTop (mkF m 122 #[.val (.int xk), .val (.int xa), .val (.int xb), .val (.ref b1), .val (.ref b74), .val (.int (1 : Int32)), .val (.int (1 : Int32)), .val (.int (0 : Int32)), .val (.int (2 : Int32)), .unset] [(.int (1 : Int32))]))
        refine OGo.st (fun _ kz => XS.goto X134.here hx rfl (pc0 := 122) (pc' := 126) rfl (hb hby at_122) (by decide) (by decide) kz) ?_
        show OGo p.tables e below Φ (T134.setTop (mkF m 126 #[.val (.int xk), .val (.int xa), .val (.int xb), .val (.ref b1), .val (.ref b74), .val (.int (1 : Int32)), .val (.int (1 : Int32)), .val (.int (0 : Int32)), .val (.int (2 : Int32)), .unset] [(.int (1 : Int32))]))
        refine OGo.st (fun _ kz => XS.istore X134.here hx rfl (hb hby at_126) rfl (l' := #[.val (.int xk), .val (.int xa), .val (.int xb), .val (.ref b1), .val (.ref b74), .val (.int (1 : Int32)), .val (.int (1 : Int32)), .val (.int (0 : Int32)), .val (.int (2 : Int32)), .val (.int (1 : Int32))]) rfl kz) ?_
        show OGo p.tables e below Φ (T134.setTop (mkF m 128 #[.val (.int xk), .val (.int xa), .val (.int xb), .val (.ref b1), .val (.ref b74), .val (.int (1 : Int32)), .val (.int (1 : Int32)), .val (.int (0 : Int32)), .val (.int (2 : Int32)), .val (.int (1 : Int32))] []))
        refine OGo.st (fun _ kz => XS.aloadN X134.here hx rfl (hb hby at_128) rfl rfl kz) ?_
        show OGo p.tables e below Φ (T134.setTop (mkF m 129 #[.val (.int xk), .val (.int xa), .val (.int xb), .val (.ref b1), .val (.ref b74), .val (.int (1 : Int32)), .val (.int (1 : Int32)), .val (.int (0 : Int32)), .val (.int (2 : Int32)), .val (.int (1 : Int32))] [(.ref b1)]))
        refine OGo.st (fun _ kz => XS.iload X134.here hx rfl (hb hby at_129) rfl kz) ?_
        show OGo p.tables e below Φ (T134.setTop (mkF m 131 #[.val (.int xk), .val (.int xa), .val (.int xb), .val (.ref b1), .val (.ref b74), .val (.int (1 : Int32)), .val (.int (1 : Int32)), .val (.int (0 : Int32)), .val (.int (2 : Int32)), .val (.int (1 : Int32))] [(.int (1 : Int32)), (.ref b1)]))
        obtain ⟨cl181, Aq181, -, S181, M181, H181, -⟩ := id F148
        have in181 : ¬ ((1 : Int32) < 0 ∨ cl181.slots.size ≤ (1 : Int32).toNatClampNeg) := inb_of S181 ⟨by decide, by decide⟩
        have at181 : cl181.slots[(1 : Int32).toNatClampNeg]? = some (.ref a1_) := H181.at in181 rfl
        refine OGo.st (fun _ kz => X134.aaload hx (by rw [e134]; exact Aq181.1) (State.isArrayOf_alike hZ.alike Aq181.2.1) rfl Aq181.2.2 in181 at181 (g := (mkF m 131 #[.val (.int xk), .val (.int xa), .val (.int xb), .val (.ref b1), .val (.ref b74), .val (.int (1 : Int32)), .val (.int (1 : Int32)), .val (.int (0 : Int32)), .val (.int (2 : Int32)), .val (.int (1 : Int32))] [(.int (1 : Int32)), (.ref b1)])) rfl rfl (hb hby at_131) _ kz) ?_
        show OGo p.tables e below Φ (T134.setTop (mkF m 132 #[.val (.int xk), .val (.int xa), .val (.int xb), .val (.ref b1), .val (.ref b74), .val (.int (1 : Int32)), .val (.int (1 : Int32)), .val (.int (0 : Int32)), .val (.int (2 : Int32)), .val (.int (1 : Int32))] [(.ref a1_)]))
        refine OGo.st (fun _ kz => XS.iload X134.here hx rfl (hb hby at_132) rfl kz) ?_
        show OGo p.tables e below Φ (T134.setTop (mkF m 134 #[.val (.int xk), .val (.int xa), .val (.int xb), .val (.ref b1), .val (.ref b74), .val (.int (1 : Int32)), .val (.int (1 : Int32)), .val (.int (0 : Int32)), .val (.int (2 : Int32)), .val (.int (1 : Int32))] [(.int (1 : Int32)), (.ref a1_)]))
        refine OGo.st (fun _ kz => XS.iload X134.here hx rfl (hb hby at_134) rfl kz) ?_
        show OGo p.tables e below Φ (T134.setTop (mkF m 136 #[.val (.int xk), .val (.int xa), .val (.int xb), .val (.ref b1), .val (.ref b74), .val (.int (1 : Int32)), .val (.int (1 : Int32)), .val (.int (0 : Int32)), .val (.int (2 : Int32)), .val (.int (1 : Int32))] [(.int (0 : Int32)), (.int (1 : Int32)), (.ref a1_)]))
        obtain ⟨_, T182, L182, X182, hQ182, st182⟩ := own_callVi X134 hx hZ hown (ow13 hw) (ow14 hw) (notFace_of_selects (args := #[]) (mvT hZ (ow16 hw))) (ow16 hw) (ow15 hw) (ow3 hw) (ow17 hw) (by decide) (rm2_1 l Z a0 hw [] a1_ (1 : Int32) (0 : Int32) h134 n0 Zs134 F140 F139) e134 (W := 0) (by decide) (by decide) (by decide) (by decide) F139 (pc := 136) (ls := #[.val (.int xk), .val (.int xa), .val (.int xb), .val (.ref b1), .val (.ref b74), .val (.int (1 : Int32)), .val (.int (1 : Int32)), .val (.int (0 : Int32)), .val (.int (2 : Int32)), .val (.int (1 : Int32))]) (stk := [(.int (0 : Int32)), (.int (1 : Int32)), (.ref a1_)]) (by rw [hml]; rfl) (argsL := [(.int (1 : Int32)), (.int (0 : Int32))]) (rest := []) (lenOf pd1 rfl) rfl rfl (Nat.le_of_eq rfl) (hb hby at_136)
        obtain ⟨rfl, Nq182, e182⟩ := hQ182
        have N182 := Fr.app N134 Nq182
        refine OGo.st st182 ?_
        show OGo p.tables e below Φ (T182.setTop (mkF m 139 #[.val (.int xk), .val (.int xa), .val (.int xb), .val (.ref b1), .val (.ref b74), .val (.int (1 : Int32)), .val (.int (1 : Int32)), .val (.int (0 : Int32)), .val (.int (2 : Int32)), .val (.int (1 : Int32))] [(.int (own_ap1 (1 : Int32) (0 : Int32)))]))
        refine OGo.st (fun _ kz => XS.iload X182.here hx rfl (hb hby at_139) rfl kz) ?_
        show OGo p.tables e below Φ (T182.setTop (mkF m 141 #[.val (.int xk), .val (.int xa), .val (.int xb), .val (.ref b1), .val (.ref b74), .val (.int (1 : Int32)), .val (.int (1 : Int32)), .val (.int (0 : Int32)), .val (.int (2 : Int32)), .val (.int (1 : Int32))] [(.int (1 : Int32)), (.int (own_ap1 (1 : Int32) (0 : Int32)))]))
        by_cases hc183 : (own_ap1 (1 : Int32) (0 : Int32)) = (1 : Int32)
        · refine OGo.st (fun _ kz => XS.icmpNo X182.here hx rfl (hb hby at_141) rfl (XT.ii_ne_f hc183) kz) ?_
          show OGo p.tables e below Φ (T182.setTop (mkF m 144 #[.val (.int xk), .val (.int xa), .val (.int xb), .val (.ref b1), .val (.ref b74), .val (.int (1 : Int32)), .val (.int (1 : Int32)), .val (.int (0 : Int32)), .val (.int (2 : Int32)), .val (.int (1 : Int32))] []))
          refine OGo.st (fun _ kz => XS.iconst X182.here hx rfl (hb hby at_144) kz) ?_
          show OGo p.tables e below Φ (T182.setTop (mkF m 145 #[.val (.int xk), .val (.int xa), .val (.int xb), .val (.ref b1), .val (.ref b74), .val (.int (1 : Int32)), .val (.int (1 : Int32)), .val (.int (0 : Int32)), .val (.int (2 : Int32)), .val (.int (1 : Int32))] [(.int (1 : Int32))]))
          refine OGo.st (fun _ kz => XS.goto X182.here hx rfl (pc0 := 145) (pc' := 149) rfl (hb hby at_145) (by decide) (by decide) kz) ?_
          show OGo p.tables e below Φ (T182.setTop (mkF m 149 #[.val (.int xk), .val (.int xa), .val (.int xb), .val (.ref b1), .val (.ref b74), .val (.int (1 : Int32)), .val (.int (1 : Int32)), .val (.int (0 : Int32)), .val (.int (2 : Int32)), .val (.int (1 : Int32))] [(.int (1 : Int32))]))
          refine OGo.fin X182 hlk (v := (some (.int (1 : Int32)))) (fun h => by rw [hret] at h; cases h) (by decide) (by decide) (fun fs hr => X182.ireturnOut hx hret rfl (by simp) (hb hby at_149) hr) fun U eU hF => hΦ _ _ _ ?_ hF
          rw [eU, e182]
          show Q_rm0 Z xk xa xb a0_ a1_ a2_ a3_ h0 n0 _ _ _
          exact ⟨rfl, N182⟩
        · refine OGo.st (fun _ kz => XS.icmpYes X182.here hx rfl (pc0 := 141) (pc' := 148) rfl (hb hby at_141) rfl (XT.ii_ne_t hc183) (by decide) (by decide) kz) ?_
          show OGo p.tables e below Φ (T182.setTop (mkF m 148 #[.val (.int xk), .val (.int xa), .val (.int xb), .val (.ref b1), .val (.ref b74), .val (.int (1 : Int32)), .val (.int (1 : Int32)), .val (.int (0 : Int32)), .val (.int (2 : Int32)), .val (.int (1 : Int32))] []))
          refine OGo.st (fun _ kz => XS.iconst X182.here hx rfl (hb hby at_148) kz) ?_
          show OGo p.tables e below Φ (T182.setTop (mkF m 149 #[.val (.int xk), .val (.int xa), .val (.int xb), .val (.ref b1), .val (.ref b74), .val (.int (1 : Int32)), .val (.int (1 : Int32)), .val (.int (0 : Int32)), .val (.int (2 : Int32)), .val (.int (1 : Int32))] [(.int (0 : Int32))]))
          exact absurd (by decide) hc183
      · refine OGo.st (fun _ kz => XS.ifNo X134.here hx rfl (hb hby at_75) rfl (XT.i0_eq_f hc179) kz) ?_
        show OGo p.tables e below Φ (T134.setTop (mkF m 78 #[.val (.int xk), .val (.int xa), .val (.int xb), .val (.ref b1), .val (.ref b74), .val (.int (1 : Int32)), .val (.int (1 : Int32)), .unset, .unset, .unset] []))
        refine OGo.st (fun _ kz => XS.iconst X134.here hx rfl (hb hby at_78) kz) ?_
        show OGo p.tables e below Φ (T134.setTop (mkF m 79 #[.val (.int xk), .val (.int xa), .val (.int xb), .val (.ref b1), .val (.ref b74), .val (.int (1 : Int32)), .val (.int (1 : Int32)), .unset, .unset, .unset] [(.int (1 : Int32))]))
        refine OGo.st (fun _ kz => XS.goto X134.here hx rfl (pc0 := 79) (pc' := 83) rfl (hb hby at_79) (by decide) (by decide) kz) ?_
        show OGo p.tables e below Φ (T134.setTop (mkF m 83 #[.val (.int xk), .val (.int xa), .val (.int xb), .val (.ref b1), .val (.ref b74), .val (.int (1 : Int32)), .val (.int (1 : Int32)), .unset, .unset, .unset] [(.int (1 : Int32))]))
        refine OGo.st (fun _ kz => XS.istore X134.here hx rfl (hb hby at_83) rfl (l' := #[.val (.int xk), .val (.int xa), .val (.int xb), .val (.ref b1), .val (.ref b74), .val (.int (1 : Int32)), .val (.int (1 : Int32)), .val (.int (1 : Int32)), .unset, .unset]) rfl kz) ?_
        show OGo p.tables e below Φ (T134.setTop (mkF m 85 #[.val (.int xk), .val (.int xa), .val (.int xb), .val (.ref b1), .val (.ref b74), .val (.int (1 : Int32)), .val (.int (1 : Int32)), .val (.int (1 : Int32)), .unset, .unset] []))
        refine OGo.st (fun _ kz => XS.iload X134.here hx rfl (hb hby at_85) rfl kz) ?_
        show OGo p.tables e below Φ (T134.setTop (mkF m 87 #[.val (.int xk), .val (.int xa), .val (.int xb), .val (.ref b1), .val (.ref b74), .val (.int (1 : Int32)), .val (.int (1 : Int32)), .val (.int (1 : Int32)), .unset, .unset] [(.int (1 : Int32))]))
        refine OGo.st (fun _ kz => XS.ifNo X134.here hx rfl (hb hby at_87) rfl (XT.i0_eq_f (by decide)) kz) ?_
        show OGo p.tables e below Φ (T134.setTop (mkF m 90 #[.val (.int xk), .val (.int xa), .val (.int xb), .val (.ref b1), .val (.ref b74), .val (.int (1 : Int32)), .val (.int (1 : Int32)), .val (.int (1 : Int32)), .unset, .unset] []))
        refine OGo.st (fun _ kz => XS.iconst X134.here hx rfl (hb hby at_90) kz) ?_
        show OGo p.tables e below Φ (T134.setTop (mkF m 91 #[.val (.int xk), .val (.int xa), .val (.int xb), .val (.ref b1), .val (.ref b74), .val (.int (1 : Int32)), .val (.int (1 : Int32)), .val (.int (1 : Int32)), .unset, .unset] [(.int (2 : Int32))]))
        refine OGo.st (fun _ kz => XS.goto X134.here hx rfl (pc0 := 91) (pc' := 95) rfl (hb hby at_91) (by decide) (by decide) kz) ?_
        show OGo p.tables e below Φ (T134.setTop (mkF m 95 #[.val (.int xk), .val (.int xa), .val (.int xb), .val (.ref b1), .val (.ref b74), .val (.int (1 : Int32)), .val (.int (1 : Int32)), .val (.int (1 : Int32)), .unset, .unset] [(.int (2 : Int32))]))
        refine OGo.st (fun _ kz => XS.iload X134.here hx rfl (hb hby at_95) rfl kz) ?_
        show OGo p.tables e below Φ (T134.setTop (mkF m 97 #[.val (.int xk), .val (.int xa), .val (.int xb), .val (.ref b1), .val (.ref b74), .val (.int (1 : Int32)), .val (.int (1 : Int32)), .val (.int (1 : Int32)), .unset, .unset] [(.int (1 : Int32)), (.int (2 : Int32))]))
        refine OGo.st (fun _ kz => XS.ifNo X134.here hx rfl (hb hby at_97) rfl (XT.i0_eq_f (by decide)) kz) ?_
        show OGo p.tables e below Φ (T134.setTop (mkF m 100 #[.val (.int xk), .val (.int xa), .val (.int xb), .val (.ref b1), .val (.ref b74), .val (.int (1 : Int32)), .val (.int (1 : Int32)), .val (.int (1 : Int32)), .unset, .unset] [(.int (2 : Int32))]))
        refine OGo.st (fun _ kz => XS.iconst X134.here hx rfl (hb hby at_100) kz) ?_
        show OGo p.tables e below Φ (T134.setTop (mkF m 101 #[.val (.int xk), .val (.int xa), .val (.int xb), .val (.ref b1), .val (.ref b74), .val (.int (1 : Int32)), .val (.int (1 : Int32)), .val (.int (1 : Int32)), .unset, .unset] [(.int (1 : Int32)), (.int (2 : Int32))]))
        refine OGo.st (fun _ kz => XS.goto X134.here hx rfl (pc0 := 101) (pc' := 105) rfl (hb hby at_101) (by decide) (by decide) kz) ?_
        show OGo p.tables e below Φ (T134.setTop (mkF m 105 #[.val (.int xk), .val (.int xa), .val (.int xb), .val (.ref b1), .val (.ref b74), .val (.int (1 : Int32)), .val (.int (1 : Int32)), .val (.int (1 : Int32)), .unset, .unset] [(.int (1 : Int32)), (.int (2 : Int32))]))
        refine OGo.st (fun _ kz => XS.iadd X134.here hx rfl (hb hby at_105) rfl kz) ?_
        show OGo p.tables e below Φ (T134.setTop (mkF m 106 #[.val (.int xk), .val (.int xa), .val (.int xb), .val (.ref b1), .val (.ref b74), .val (.int (1 : Int32)), .val (.int (1 : Int32)), .val (.int (1 : Int32)), .unset, .unset] [(.int (3 : Int32))]))
        refine OGo.st (fun _ kz => XS.istore X134.here hx rfl (hb hby at_106) rfl (l' := #[.val (.int xk), .val (.int xa), .val (.int xb), .val (.ref b1), .val (.ref b74), .val (.int (1 : Int32)), .val (.int (1 : Int32)), .val (.int (1 : Int32)), .val (.int (3 : Int32)), .unset]) rfl kz) ?_
        show OGo p.tables e below Φ (T134.setTop (mkF m 108 #[.val (.int xk), .val (.int xa), .val (.int xb), .val (.ref b1), .val (.ref b74), .val (.int (1 : Int32)), .val (.int (1 : Int32)), .val (.int (1 : Int32)), .val (.int (3 : Int32)), .unset] []))
        refine OGo.st (fun _ kz => XS.aload X134.here hx rfl (hb hby at_108) rfl rfl kz) ?_
        show OGo p.tables e below Φ (T134.setTop (mkF m 110 #[.val (.int xk), .val (.int xa), .val (.int xb), .val (.ref b1), .val (.ref b74), .val (.int (1 : Int32)), .val (.int (1 : Int32)), .val (.int (1 : Int32)), .val (.int (3 : Int32)), .unset] [(.ref b74)]))
        refine OGo.st (fun _ kz => XS.iload X134.here hx rfl (hb hby at_110) rfl kz) ?_
        show OGo p.tables e below Φ (T134.setTop (mkF m 112 #[.val (.int xk), .val (.int xa), .val (.int xb), .val (.ref b1), .val (.ref b74), .val (.int (1 : Int32)), .val (.int (1 : Int32)), .val (.int (1 : Int32)), .val (.int (3 : Int32)), .unset] [(.int (1 : Int32)), (.ref b74)]))
        obtain ⟨cl184, Aq184, -, S184, M184, H184, -⟩ := id V134
        have in184 : ¬ ((1 : Int32) < 0 ∨ cl184.slots.size ≤ (1 : Int32).toNatClampNeg) := inb_of S184 ⟨by decide, by decide⟩
        have at184 : cl184.slots[(1 : Int32).toNatClampNeg]? = some (.int (14 : Int32)) := H184.at in184 rfl
        refine OGo.st (fun _ kz => X134.iaload hx (by rw [e134]; exact Aq184.1) (State.isArrayOf_alike hZ.alike Aq184.2.1) Aq184.2.2 in184 at184 (g := (mkF m 112 #[.val (.int xk), .val (.int xa), .val (.int xb), .val (.ref b1), .val (.ref b74), .val (.int (1 : Int32)), .val (.int (1 : Int32)), .val (.int (1 : Int32)), .val (.int (3 : Int32)), .unset] [(.int (1 : Int32)), (.ref b74)])) rfl rfl (hb hby at_112) _ kz) ?_
        show OGo p.tables e below Φ (T134.setTop (mkF m 113 #[.val (.int xk), .val (.int xa), .val (.int xb), .val (.ref b1), .val (.ref b74), .val (.int (1 : Int32)), .val (.int (1 : Int32)), .val (.int (1 : Int32)), .val (.int (3 : Int32)), .unset] [(.int (14 : Int32))]))
        refine OGo.st (fun _ kz => XS.iload X134.here hx rfl (hb hby at_113) rfl kz) ?_
        show OGo p.tables e below Φ (T134.setTop (mkF m 115 #[.val (.int xk), .val (.int xa), .val (.int xb), .val (.ref b1), .val (.ref b74), .val (.int (1 : Int32)), .val (.int (1 : Int32)), .val (.int (1 : Int32)), .val (.int (3 : Int32)), .unset] [(.int (3 : Int32)), (.int (14 : Int32))]))
        refine OGo.st (fun _ kz => XT.ishr X134.here hx rfl (hb hby at_115) rfl kz) ?_
        show OGo p.tables e below Φ (T134.setTop (mkF m 116 #[.val (.int xk), .val (.int xa), .val (.int xb), .val (.ref b1), .val (.ref b74), .val (.int (1 : Int32)), .val (.int (1 : Int32)), .val (.int (1 : Int32)), .val (.int (3 : Int32)), .unset] [(.int (1 : Int32))]))
        refine OGo.st (fun _ kz => XS.iconst X134.here hx rfl (hb hby at_116) kz) ?_
        show OGo p.tables e below Φ (T134.setTop (mkF m 117 #[.val (.int xk), .val (.int xa), .val (.int xb), .val (.ref b1), .val (.ref b74), .val (.int (1 : Int32)), .val (.int (1 : Int32)), .val (.int (1 : Int32)), .val (.int (3 : Int32)), .unset] [(.int (1 : Int32)), (.int (1 : Int32))]))
        refine OGo.st (fun _ kz => XS.iand X134.here hx rfl (hb hby at_117) rfl kz) ?_
        show OGo p.tables e below Φ (T134.setTop (mkF m 118 #[.val (.int xk), .val (.int xa), .val (.int xb), .val (.ref b1), .val (.ref b74), .val (.int (1 : Int32)), .val (.int (1 : Int32)), .val (.int (1 : Int32)), .val (.int (3 : Int32)), .unset] [(.int (1 : Int32))]))
        refine OGo.st (fun _ kz => XS.ifNo X134.here hx rfl (hb hby at_118) rfl (XT.i0_eq_f (by decide)) kz) ?_
        show OGo p.tables e below Φ (T134.setTop (mkF m 121 #[.val (.int xk), .val (.int xa), .val (.int xb), .val (.ref b1), .val (.ref b74), .val (.int (1 : Int32)), .val (.int (1 : Int32)), .val (.int (1 : Int32)), .val (.int (3 : Int32)), .unset] []))
        refine OGo.st (fun _ kz => XS.iconst X134.here hx rfl (hb hby at_121) kz) ?_
        show OGo p.tables e below Φ (T134.setTop (mkF m 122 #[.val (.int xk), .val (.int xa), .val (.int xb), .val (.ref b1), .val (.ref b74), .val (.int (1 : Int32)), .val (.int (1 : Int32)), .val (.int (1 : Int32)), .val (.int (3 : Int32)), .unset] [(.int (1 : Int32))]))
        refine OGo.st (fun _ kz => XS.goto X134.here hx rfl (pc0 := 122) (pc' := 126) rfl (hb hby at_122) (by decide) (by decide) kz) ?_
        show OGo p.tables e below Φ (T134.setTop (mkF m 126 #[.val (.int xk), .val (.int xa), .val (.int xb), .val (.ref b1), .val (.ref b74), .val (.int (1 : Int32)), .val (.int (1 : Int32)), .val (.int (1 : Int32)), .val (.int (3 : Int32)), .unset] [(.int (1 : Int32))]))
        refine OGo.st (fun _ kz => XS.istore X134.here hx rfl (hb hby at_126) rfl (l' := #[.val (.int xk), .val (.int xa), .val (.int xb), .val (.ref b1), .val (.ref b74), .val (.int (1 : Int32)), .val (.int (1 : Int32)), .val (.int (1 : Int32)), .val (.int (3 : Int32)), .val (.int (1 : Int32))]) rfl kz) ?_
        show OGo p.tables e below Φ (T134.setTop (mkF m 128 #[.val (.int xk), .val (.int xa), .val (.int xb), .val (.ref b1), .val (.ref b74), .val (.int (1 : Int32)), .val (.int (1 : Int32)), .val (.int (1 : Int32)), .val (.int (3 : Int32)), .val (.int (1 : Int32))] []))
        refine OGo.st (fun _ kz => XS.aloadN X134.here hx rfl (hb hby at_128) rfl rfl kz) ?_
        show OGo p.tables e below Φ (T134.setTop (mkF m 129 #[.val (.int xk), .val (.int xa), .val (.int xb), .val (.ref b1), .val (.ref b74), .val (.int (1 : Int32)), .val (.int (1 : Int32)), .val (.int (1 : Int32)), .val (.int (3 : Int32)), .val (.int (1 : Int32))] [(.ref b1)]))
        refine OGo.st (fun _ kz => XS.iload X134.here hx rfl (hb hby at_129) rfl kz) ?_
        show OGo p.tables e below Φ (T134.setTop (mkF m 131 #[.val (.int xk), .val (.int xa), .val (.int xb), .val (.ref b1), .val (.ref b74), .val (.int (1 : Int32)), .val (.int (1 : Int32)), .val (.int (1 : Int32)), .val (.int (3 : Int32)), .val (.int (1 : Int32))] [(.int (1 : Int32)), (.ref b1)]))
        obtain ⟨cl185, Aq185, -, S185, M185, H185, -⟩ := id F148
        have in185 : ¬ ((1 : Int32) < 0 ∨ cl185.slots.size ≤ (1 : Int32).toNatClampNeg) := inb_of S185 ⟨by decide, by decide⟩
        have at185 : cl185.slots[(1 : Int32).toNatClampNeg]? = some (.ref a1_) := H185.at in185 rfl
        refine OGo.st (fun _ kz => X134.aaload hx (by rw [e134]; exact Aq185.1) (State.isArrayOf_alike hZ.alike Aq185.2.1) rfl Aq185.2.2 in185 at185 (g := (mkF m 131 #[.val (.int xk), .val (.int xa), .val (.int xb), .val (.ref b1), .val (.ref b74), .val (.int (1 : Int32)), .val (.int (1 : Int32)), .val (.int (1 : Int32)), .val (.int (3 : Int32)), .val (.int (1 : Int32))] [(.int (1 : Int32)), (.ref b1)])) rfl rfl (hb hby at_131) _ kz) ?_
        show OGo p.tables e below Φ (T134.setTop (mkF m 132 #[.val (.int xk), .val (.int xa), .val (.int xb), .val (.ref b1), .val (.ref b74), .val (.int (1 : Int32)), .val (.int (1 : Int32)), .val (.int (1 : Int32)), .val (.int (3 : Int32)), .val (.int (1 : Int32))] [(.ref a1_)]))
        refine OGo.st (fun _ kz => XS.iload X134.here hx rfl (hb hby at_132) rfl kz) ?_
        show OGo p.tables e below Φ (T134.setTop (mkF m 134 #[.val (.int xk), .val (.int xa), .val (.int xb), .val (.ref b1), .val (.ref b74), .val (.int (1 : Int32)), .val (.int (1 : Int32)), .val (.int (1 : Int32)), .val (.int (3 : Int32)), .val (.int (1 : Int32))] [(.int (1 : Int32)), (.ref a1_)]))
        refine OGo.st (fun _ kz => XS.iload X134.here hx rfl (hb hby at_134) rfl kz) ?_
        show OGo p.tables e below Φ (T134.setTop (mkF m 136 #[.val (.int xk), .val (.int xa), .val (.int xb), .val (.ref b1), .val (.ref b74), .val (.int (1 : Int32)), .val (.int (1 : Int32)), .val (.int (1 : Int32)), .val (.int (3 : Int32)), .val (.int (1 : Int32))] [(.int (1 : Int32)), (.int (1 : Int32)), (.ref a1_)]))
        obtain ⟨_, T186, L186, X186, hQ186, st186⟩ := own_callVi X134 hx hZ hown (ow13 hw) (ow14 hw) (notFace_of_selects (args := #[]) (mvT hZ (ow16 hw))) (ow16 hw) (ow15 hw) (ow3 hw) (ow17 hw) (by decide) (rm2_1 l Z a0 hw [] a1_ (1 : Int32) (1 : Int32) h134 n0 Zs134 F140 F139) e134 (W := 0) (by decide) (by decide) (by decide) (by decide) F139 (pc := 136) (ls := #[.val (.int xk), .val (.int xa), .val (.int xb), .val (.ref b1), .val (.ref b74), .val (.int (1 : Int32)), .val (.int (1 : Int32)), .val (.int (1 : Int32)), .val (.int (3 : Int32)), .val (.int (1 : Int32))]) (stk := [(.int (1 : Int32)), (.int (1 : Int32)), (.ref a1_)]) (by rw [hml]; rfl) (argsL := [(.int (1 : Int32)), (.int (1 : Int32))]) (rest := []) (lenOf pd1 rfl) rfl rfl (Nat.le_of_eq rfl) (hb hby at_136)
        obtain ⟨rfl, Nq186, e186⟩ := hQ186
        have N186 := Fr.app N134 Nq186
        refine OGo.st st186 ?_
        show OGo p.tables e below Φ (T186.setTop (mkF m 139 #[.val (.int xk), .val (.int xa), .val (.int xb), .val (.ref b1), .val (.ref b74), .val (.int (1 : Int32)), .val (.int (1 : Int32)), .val (.int (1 : Int32)), .val (.int (3 : Int32)), .val (.int (1 : Int32))] [(.int (own_ap1 (1 : Int32) (1 : Int32)))]))
        refine OGo.st (fun _ kz => XS.iload X186.here hx rfl (hb hby at_139) rfl kz) ?_
        show OGo p.tables e below Φ (T186.setTop (mkF m 141 #[.val (.int xk), .val (.int xa), .val (.int xb), .val (.ref b1), .val (.ref b74), .val (.int (1 : Int32)), .val (.int (1 : Int32)), .val (.int (1 : Int32)), .val (.int (3 : Int32)), .val (.int (1 : Int32))] [(.int (1 : Int32)), (.int (own_ap1 (1 : Int32) (1 : Int32)))]))
        by_cases hc187 : (own_ap1 (1 : Int32) (1 : Int32)) = (1 : Int32)
        · refine OGo.st (fun _ kz => XS.icmpNo X186.here hx rfl (hb hby at_141) rfl (XT.ii_ne_f hc187) kz) ?_
          show OGo p.tables e below Φ (T186.setTop (mkF m 144 #[.val (.int xk), .val (.int xa), .val (.int xb), .val (.ref b1), .val (.ref b74), .val (.int (1 : Int32)), .val (.int (1 : Int32)), .val (.int (1 : Int32)), .val (.int (3 : Int32)), .val (.int (1 : Int32))] []))
          refine OGo.st (fun _ kz => XS.iconst X186.here hx rfl (hb hby at_144) kz) ?_
          show OGo p.tables e below Φ (T186.setTop (mkF m 145 #[.val (.int xk), .val (.int xa), .val (.int xb), .val (.ref b1), .val (.ref b74), .val (.int (1 : Int32)), .val (.int (1 : Int32)), .val (.int (1 : Int32)), .val (.int (3 : Int32)), .val (.int (1 : Int32))] [(.int (1 : Int32))]))
          refine OGo.st (fun _ kz => XS.goto X186.here hx rfl (pc0 := 145) (pc' := 149) rfl (hb hby at_145) (by decide) (by decide) kz) ?_
          show OGo p.tables e below Φ (T186.setTop (mkF m 149 #[.val (.int xk), .val (.int xa), .val (.int xb), .val (.ref b1), .val (.ref b74), .val (.int (1 : Int32)), .val (.int (1 : Int32)), .val (.int (1 : Int32)), .val (.int (3 : Int32)), .val (.int (1 : Int32))] [(.int (1 : Int32))]))
          refine OGo.fin X186 hlk (v := (some (.int (1 : Int32)))) (fun h => by rw [hret] at h; cases h) (by decide) (by decide) (fun fs hr => X186.ireturnOut hx hret rfl (by simp) (hb hby at_149) hr) fun U eU hF => hΦ _ _ _ ?_ hF
          rw [eU, e186]
          show Q_rm0 Z xk xa xb a0_ a1_ a2_ a3_ h0 n0 _ _ _
          exact ⟨rfl, N186⟩
        · refine OGo.st (fun _ kz => XS.icmpYes X186.here hx rfl (pc0 := 141) (pc' := 148) rfl (hb hby at_141) rfl (XT.ii_ne_t hc187) (by decide) (by decide) kz) ?_
          show OGo p.tables e below Φ (T186.setTop (mkF m 148 #[.val (.int xk), .val (.int xa), .val (.int xb), .val (.ref b1), .val (.ref b74), .val (.int (1 : Int32)), .val (.int (1 : Int32)), .val (.int (1 : Int32)), .val (.int (3 : Int32)), .val (.int (1 : Int32))] []))
          refine OGo.st (fun _ kz => XS.iconst X186.here hx rfl (hb hby at_148) kz) ?_
          show OGo p.tables e below Φ (T186.setTop (mkF m 149 #[.val (.int xk), .val (.int xa), .val (.int xb), .val (.ref b1), .val (.ref b74), .val (.int (1 : Int32)), .val (.int (1 : Int32)), .val (.int (1 : Int32)), .val (.int (3 : Int32)), .val (.int (1 : Int32))] [(.int (0 : Int32))]))
          exact absurd (by decide) hc187
  · rw [hk149]
    show OGo p.tables e below Φ (T134.setTop (mkF m 59 #[.val (.int xk), .val (.int xa), .val (.int xb), .val (.ref b1), .val (.ref b74), .val (.int (2 : Int32)), .unset, .unset, .unset, .unset] []))
    refine OGo.st (fun _ kz => XS.iloadN X134.here hx rfl (hb hby at_59) rfl kz) ?_
    show OGo p.tables e below Φ (T134.setTop (mkF m 60 #[.val (.int xk), .val (.int xa), .val (.int xb), .val (.ref b1), .val (.ref b74), .val (.int (2 : Int32)), .unset, .unset, .unset, .unset] [(.int xa)]))
    refine OGo.st (fun _ kz => XS.iconst X134.here hx rfl (hb hby at_60) kz) ?_
    show OGo p.tables e below Φ (T134.setTop (mkF m 61 #[.val (.int xk), .val (.int xa), .val (.int xb), .val (.ref b1), .val (.ref b74), .val (.int (2 : Int32)), .unset, .unset, .unset, .unset] [(.int (1 : Int32)), (.int xa)]))
    refine OGo.st (fun _ kz => XS.iand X134.here hx rfl (hb hby at_61) rfl kz) ?_
    show OGo p.tables e below Φ (T134.setTop (mkF m 62 #[.val (.int xk), .val (.int xa), .val (.int xb), .val (.ref b1), .val (.ref b74), .val (.int (2 : Int32)), .unset, .unset, .unset, .unset] [(.int (xa &&& (1 : Int32)))]))
    by_cases hc188 : (xa &&& (1 : Int32)) = 0
    · refine OGo.st (fun _ kz => XS.ifYes X134.here hx rfl (pc0 := 62) (pc' := 69) rfl (hb hby at_62) rfl (XT.i0_eq_t hc188) (by decide) (by decide) kz) ?_
      show OGo p.tables e below Φ (T134.setTop (mkF m 69 #[.val (.int xk), .val (.int xa), .val (.int xb), .val (.ref b1), .val (.ref b74), .val (.int (2 : Int32)), .unset, .unset, .unset, .unset] []))
      refine OGo.st (fun _ kz => XS.iconst X134.here hx rfl (hb hby at_69) kz) ?_
      show OGo p.tables e below Φ (T134.setTop (mkF m 70 #[.val (.int xk), .val (.int xa), .val (.int xb), .val (.ref b1), .val (.ref b74), .val (.int (2 : Int32)), .unset, .unset, .unset, .unset] [(.int (0 : Int32))]))
      refine OGo.st (fun _ kz => XS.istore X134.here hx rfl (hb hby at_70) rfl (l' := #[.val (.int xk), .val (.int xa), .val (.int xb), .val (.ref b1), .val (.ref b74), .val (.int (2 : Int32)), .val (.int (0 : Int32)), .unset, .unset, .unset]) rfl kz) ?_
      show OGo p.tables e below Φ (T134.setTop (mkF m 72 #[.val (.int xk), .val (.int xa), .val (.int xb), .val (.ref b1), .val (.ref b74), .val (.int (2 : Int32)), .val (.int (0 : Int32)), .unset, .unset, .unset] []))
      refine OGo.st (fun _ kz => XS.iloadN X134.here hx rfl (hb hby at_72) rfl kz) ?_
      show OGo p.tables e below Φ (T134.setTop (mkF m 73 #[.val (.int xk), .val (.int xa), .val (.int xb), .val (.ref b1), .val (.ref b74), .val (.int (2 : Int32)), .val (.int (0 : Int32)), .unset, .unset, .unset] [(.int xb)]))
      refine OGo.st (fun _ kz => XS.iconst X134.here hx rfl (hb hby at_73) kz) ?_
      show OGo p.tables e below Φ (T134.setTop (mkF m 74 #[.val (.int xk), .val (.int xa), .val (.int xb), .val (.ref b1), .val (.ref b74), .val (.int (2 : Int32)), .val (.int (0 : Int32)), .unset, .unset, .unset] [(.int (1 : Int32)), (.int xb)]))
      refine OGo.st (fun _ kz => XS.iand X134.here hx rfl (hb hby at_74) rfl kz) ?_
      show OGo p.tables e below Φ (T134.setTop (mkF m 75 #[.val (.int xk), .val (.int xa), .val (.int xb), .val (.ref b1), .val (.ref b74), .val (.int (2 : Int32)), .val (.int (0 : Int32)), .unset, .unset, .unset] [(.int (xb &&& (1 : Int32)))]))
      by_cases hc189 : (xb &&& (1 : Int32)) = 0
      · refine OGo.st (fun _ kz => XS.ifYes X134.here hx rfl (pc0 := 75) (pc' := 82) rfl (hb hby at_75) rfl (XT.i0_eq_t hc189) (by decide) (by decide) kz) ?_
        show OGo p.tables e below Φ (T134.setTop (mkF m 82 #[.val (.int xk), .val (.int xa), .val (.int xb), .val (.ref b1), .val (.ref b74), .val (.int (2 : Int32)), .val (.int (0 : Int32)), .unset, .unset, .unset] []))
        refine OGo.st (fun _ kz => XS.iconst X134.here hx rfl (hb hby at_82) kz) ?_
        show OGo p.tables e below Φ (T134.setTop (mkF m 83 #[.val (.int xk), .val (.int xa), .val (.int xb), .val (.ref b1), .val (.ref b74), .val (.int (2 : Int32)), .val (.int (0 : Int32)), .unset, .unset, .unset] [(.int (0 : Int32))]))
        refine OGo.st (fun _ kz => XS.istore X134.here hx rfl (hb hby at_83) rfl (l' := #[.val (.int xk), .val (.int xa), .val (.int xb), .val (.ref b1), .val (.ref b74), .val (.int (2 : Int32)), .val (.int (0 : Int32)), .val (.int (0 : Int32)), .unset, .unset]) rfl kz) ?_
        show OGo p.tables e below Φ (T134.setTop (mkF m 85 #[.val (.int xk), .val (.int xa), .val (.int xb), .val (.ref b1), .val (.ref b74), .val (.int (2 : Int32)), .val (.int (0 : Int32)), .val (.int (0 : Int32)), .unset, .unset] []))
        refine OGo.st (fun _ kz => XS.iload X134.here hx rfl (hb hby at_85) rfl kz) ?_
        show OGo p.tables e below Φ (T134.setTop (mkF m 87 #[.val (.int xk), .val (.int xa), .val (.int xb), .val (.ref b1), .val (.ref b74), .val (.int (2 : Int32)), .val (.int (0 : Int32)), .val (.int (0 : Int32)), .unset, .unset] [(.int (0 : Int32))]))
        refine OGo.st (fun _ kz => XS.ifYes X134.here hx rfl (pc0 := 87) (pc' := 94) rfl (hb hby at_87) rfl (XT.i0_eq_t (by decide)) (by decide) (by decide) kz) ?_
        show OGo p.tables e below Φ (T134.setTop (mkF m 94 #[.val (.int xk), .val (.int xa), .val (.int xb), .val (.ref b1), .val (.ref b74), .val (.int (2 : Int32)), .val (.int (0 : Int32)), .val (.int (0 : Int32)), .unset, .unset] []))
        refine OGo.st (fun _ kz => XS.iconst X134.here hx rfl (hb hby at_94) kz) ?_
        show OGo p.tables e below Φ (T134.setTop (mkF m 95 #[.val (.int xk), .val (.int xa), .val (.int xb), .val (.ref b1), .val (.ref b74), .val (.int (2 : Int32)), .val (.int (0 : Int32)), .val (.int (0 : Int32)), .unset, .unset] [(.int (0 : Int32))]))
        refine OGo.st (fun _ kz => XS.iload X134.here hx rfl (hb hby at_95) rfl kz) ?_
        show OGo p.tables e below Φ (T134.setTop (mkF m 97 #[.val (.int xk), .val (.int xa), .val (.int xb), .val (.ref b1), .val (.ref b74), .val (.int (2 : Int32)), .val (.int (0 : Int32)), .val (.int (0 : Int32)), .unset, .unset] [(.int (0 : Int32)), (.int (0 : Int32))]))
        refine OGo.st (fun _ kz => XS.ifYes X134.here hx rfl (pc0 := 97) (pc' := 104) rfl (hb hby at_97) rfl (XT.i0_eq_t (by decide)) (by decide) (by decide) kz) ?_
        show OGo p.tables e below Φ (T134.setTop (mkF m 104 #[.val (.int xk), .val (.int xa), .val (.int xb), .val (.ref b1), .val (.ref b74), .val (.int (2 : Int32)), .val (.int (0 : Int32)), .val (.int (0 : Int32)), .unset, .unset] [(.int (0 : Int32))]))
        refine OGo.st (fun _ kz => XS.iconst X134.here hx rfl (hb hby at_104) kz) ?_
        show OGo p.tables e below Φ (T134.setTop (mkF m 105 #[.val (.int xk), .val (.int xa), .val (.int xb), .val (.ref b1), .val (.ref b74), .val (.int (2 : Int32)), .val (.int (0 : Int32)), .val (.int (0 : Int32)), .unset, .unset] [(.int (0 : Int32)), (.int (0 : Int32))]))
        refine OGo.st (fun _ kz => XS.iadd X134.here hx rfl (hb hby at_105) rfl kz) ?_
        show OGo p.tables e below Φ (T134.setTop (mkF m 106 #[.val (.int xk), .val (.int xa), .val (.int xb), .val (.ref b1), .val (.ref b74), .val (.int (2 : Int32)), .val (.int (0 : Int32)), .val (.int (0 : Int32)), .unset, .unset] [(.int (0 : Int32))]))
        refine OGo.st (fun _ kz => XS.istore X134.here hx rfl (hb hby at_106) rfl (l' := #[.val (.int xk), .val (.int xa), .val (.int xb), .val (.ref b1), .val (.ref b74), .val (.int (2 : Int32)), .val (.int (0 : Int32)), .val (.int (0 : Int32)), .val (.int (0 : Int32)), .unset]) rfl kz) ?_
        show OGo p.tables e below Φ (T134.setTop (mkF m 108 #[.val (.int xk), .val (.int xa), .val (.int xb), .val (.ref b1), .val (.ref b74), .val (.int (2 : Int32)), .val (.int (0 : Int32)), .val (.int (0 : Int32)), .val (.int (0 : Int32)), .unset] []))
        refine OGo.st (fun _ kz => XS.aload X134.here hx rfl (hb hby at_108) rfl rfl kz) ?_
        show OGo p.tables e below Φ (T134.setTop (mkF m 110 #[.val (.int xk), .val (.int xa), .val (.int xb), .val (.ref b1), .val (.ref b74), .val (.int (2 : Int32)), .val (.int (0 : Int32)), .val (.int (0 : Int32)), .val (.int (0 : Int32)), .unset] [(.ref b74)]))
        refine OGo.st (fun _ kz => XS.iload X134.here hx rfl (hb hby at_110) rfl kz) ?_
        show OGo p.tables e below Φ (T134.setTop (mkF m 112 #[.val (.int xk), .val (.int xa), .val (.int xb), .val (.ref b1), .val (.ref b74), .val (.int (2 : Int32)), .val (.int (0 : Int32)), .val (.int (0 : Int32)), .val (.int (0 : Int32)), .unset] [(.int (2 : Int32)), (.ref b74)]))
        obtain ⟨cl190, Aq190, -, S190, M190, H190, -⟩ := id V134
        have in190 : ¬ ((2 : Int32) < 0 ∨ cl190.slots.size ≤ (2 : Int32).toNatClampNeg) := inb_of S190 ⟨by decide, by decide⟩
        have at190 : cl190.slots[(2 : Int32).toNatClampNeg]? = some (.int (11 : Int32)) := H190.at in190 rfl
        refine OGo.st (fun _ kz => X134.iaload hx (by rw [e134]; exact Aq190.1) (State.isArrayOf_alike hZ.alike Aq190.2.1) Aq190.2.2 in190 at190 (g := (mkF m 112 #[.val (.int xk), .val (.int xa), .val (.int xb), .val (.ref b1), .val (.ref b74), .val (.int (2 : Int32)), .val (.int (0 : Int32)), .val (.int (0 : Int32)), .val (.int (0 : Int32)), .unset] [(.int (2 : Int32)), (.ref b74)])) rfl rfl (hb hby at_112) _ kz) ?_
        show OGo p.tables e below Φ (T134.setTop (mkF m 113 #[.val (.int xk), .val (.int xa), .val (.int xb), .val (.ref b1), .val (.ref b74), .val (.int (2 : Int32)), .val (.int (0 : Int32)), .val (.int (0 : Int32)), .val (.int (0 : Int32)), .unset] [(.int (11 : Int32))]))
        refine OGo.st (fun _ kz => XS.iload X134.here hx rfl (hb hby at_113) rfl kz) ?_
        show OGo p.tables e below Φ (T134.setTop (mkF m 115 #[.val (.int xk), .val (.int xa), .val (.int xb), .val (.ref b1), .val (.ref b74), .val (.int (2 : Int32)), .val (.int (0 : Int32)), .val (.int (0 : Int32)), .val (.int (0 : Int32)), .unset] [(.int (0 : Int32)), (.int (11 : Int32))]))
        refine OGo.st (fun _ kz => XT.ishr X134.here hx rfl (hb hby at_115) rfl kz) ?_
        show OGo p.tables e below Φ (T134.setTop (mkF m 116 #[.val (.int xk), .val (.int xa), .val (.int xb), .val (.ref b1), .val (.ref b74), .val (.int (2 : Int32)), .val (.int (0 : Int32)), .val (.int (0 : Int32)), .val (.int (0 : Int32)), .unset] [(.int (11 : Int32))]))
        refine OGo.st (fun _ kz => XS.iconst X134.here hx rfl (hb hby at_116) kz) ?_
        show OGo p.tables e below Φ (T134.setTop (mkF m 117 #[.val (.int xk), .val (.int xa), .val (.int xb), .val (.ref b1), .val (.ref b74), .val (.int (2 : Int32)), .val (.int (0 : Int32)), .val (.int (0 : Int32)), .val (.int (0 : Int32)), .unset] [(.int (1 : Int32)), (.int (11 : Int32))]))
        refine OGo.st (fun _ kz => XS.iand X134.here hx rfl (hb hby at_117) rfl kz) ?_
        show OGo p.tables e below Φ (T134.setTop (mkF m 118 #[.val (.int xk), .val (.int xa), .val (.int xb), .val (.ref b1), .val (.ref b74), .val (.int (2 : Int32)), .val (.int (0 : Int32)), .val (.int (0 : Int32)), .val (.int (0 : Int32)), .unset] [(.int (1 : Int32))]))
        refine OGo.st (fun _ kz => XS.ifNo X134.here hx rfl (hb hby at_118) rfl (XT.i0_eq_f (by decide)) kz) ?_
        show OGo p.tables e below Φ (T134.setTop (mkF m 121 #[.val (.int xk), .val (.int xa), .val (.int xb), .val (.ref b1), .val (.ref b74), .val (.int (2 : Int32)), .val (.int (0 : Int32)), .val (.int (0 : Int32)), .val (.int (0 : Int32)), .unset] []))
        refine OGo.st (fun _ kz => XS.iconst X134.here hx rfl (hb hby at_121) kz) ?_
        show OGo p.tables e below Φ (T134.setTop (mkF m 122 #[.val (.int xk), .val (.int xa), .val (.int xb), .val (.ref b1), .val (.ref b74), .val (.int (2 : Int32)), .val (.int (0 : Int32)), .val (.int (0 : Int32)), .val (.int (0 : Int32)), .unset] [(.int (1 : Int32))]))
        refine OGo.st (fun _ kz => XS.goto X134.here hx rfl (pc0 := 122) (pc' := 126) rfl (hb hby at_122) (by decide) (by decide) kz) ?_
        show OGo p.tables e below Φ (T134.setTop (mkF m 126 #[.val (.int xk), .val (.int xa), .val (.int xb), .val (.ref b1), .val (.ref b74), .val (.int (2 : Int32)), .val (.int (0 : Int32)), .val (.int (0 : Int32)), .val (.int (0 : Int32)), .unset] [(.int (1 : Int32))]))
        refine OGo.st (fun _ kz => XS.istore X134.here hx rfl (hb hby at_126) rfl (l' := #[.val (.int xk), .val (.int xa), .val (.int xb), .val (.ref b1), .val (.ref b74), .val (.int (2 : Int32)), .val (.int (0 : Int32)), .val (.int (0 : Int32)), .val (.int (0 : Int32)), .val (.int (1 : Int32))]) rfl kz) ?_
        show OGo p.tables e below Φ (T134.setTop (mkF m 128 #[.val (.int xk), .val (.int xa), .val (.int xb), .val (.ref b1), .val (.ref b74), .val (.int (2 : Int32)), .val (.int (0 : Int32)), .val (.int (0 : Int32)), .val (.int (0 : Int32)), .val (.int (1 : Int32))] []))
        refine OGo.st (fun _ kz => XS.aloadN X134.here hx rfl (hb hby at_128) rfl rfl kz) ?_
        show OGo p.tables e below Φ (T134.setTop (mkF m 129 #[.val (.int xk), .val (.int xa), .val (.int xb), .val (.ref b1), .val (.ref b74), .val (.int (2 : Int32)), .val (.int (0 : Int32)), .val (.int (0 : Int32)), .val (.int (0 : Int32)), .val (.int (1 : Int32))] [(.ref b1)]))
        refine OGo.st (fun _ kz => XS.iload X134.here hx rfl (hb hby at_129) rfl kz) ?_
        show OGo p.tables e below Φ (T134.setTop (mkF m 131 #[.val (.int xk), .val (.int xa), .val (.int xb), .val (.ref b1), .val (.ref b74), .val (.int (2 : Int32)), .val (.int (0 : Int32)), .val (.int (0 : Int32)), .val (.int (0 : Int32)), .val (.int (1 : Int32))] [(.int (2 : Int32)), (.ref b1)]))
        obtain ⟨cl191, Aq191, -, S191, M191, H191, -⟩ := id F148
        have in191 : ¬ ((2 : Int32) < 0 ∨ cl191.slots.size ≤ (2 : Int32).toNatClampNeg) := inb_of S191 ⟨by decide, by decide⟩
        have at191 : cl191.slots[(2 : Int32).toNatClampNeg]? = some (.ref a2_) := H191.at in191 rfl
        refine OGo.st (fun _ kz => X134.aaload hx (by rw [e134]; exact Aq191.1) (State.isArrayOf_alike hZ.alike Aq191.2.1) rfl Aq191.2.2 in191 at191 (g := (mkF m 131 #[.val (.int xk), .val (.int xa), .val (.int xb), .val (.ref b1), .val (.ref b74), .val (.int (2 : Int32)), .val (.int (0 : Int32)), .val (.int (0 : Int32)), .val (.int (0 : Int32)), .val (.int (1 : Int32))] [(.int (2 : Int32)), (.ref b1)])) rfl rfl (hb hby at_131) _ kz) ?_
        show OGo p.tables e below Φ (T134.setTop (mkF m 132 #[.val (.int xk), .val (.int xa), .val (.int xb), .val (.ref b1), .val (.ref b74), .val (.int (2 : Int32)), .val (.int (0 : Int32)), .val (.int (0 : Int32)), .val (.int (0 : Int32)), .val (.int (1 : Int32))] [(.ref a2_)]))
        refine OGo.st (fun _ kz => XS.iload X134.here hx rfl (hb hby at_132) rfl kz) ?_
        show OGo p.tables e below Φ (T134.setTop (mkF m 134 #[.val (.int xk), .val (.int xa), .val (.int xb), .val (.ref b1), .val (.ref b74), .val (.int (2 : Int32)), .val (.int (0 : Int32)), .val (.int (0 : Int32)), .val (.int (0 : Int32)), .val (.int (1 : Int32))] [(.int (0 : Int32)), (.ref a2_)]))
        refine OGo.st (fun _ kz => XS.iload X134.here hx rfl (hb hby at_134) rfl kz) ?_
        show OGo p.tables e below Φ (T134.setTop (mkF m 136 #[.val (.int xk), .val (.int xa), .val (.int xb), .val (.ref b1), .val (.ref b74), .val (.int (2 : Int32)), .val (.int (0 : Int32)), .val (.int (0 : Int32)), .val (.int (0 : Int32)), .val (.int (1 : Int32))] [(.int (0 : Int32)), (.int (0 : Int32)), (.ref a2_)]))
        obtain ⟨_, T192, L192, X192, hQ192, st192⟩ := own_callVi X134 hx hZ hown (ow13 hw) (ow14 hw) (notFace_of_selects (args := #[]) (mvT hZ (ow16 hw))) (ow16 hw) (ow15 hw) (ow3 hw) (ow17 hw) (by decide) (rm2_2 l Z a0 hw [] a2_ (0 : Int32) (0 : Int32) h134 n0 Zs134 F143 F142) e134 (W := 0) (by decide) (by decide) (by decide) (by decide) F142 (pc := 136) (ls := #[.val (.int xk), .val (.int xa), .val (.int xb), .val (.ref b1), .val (.ref b74), .val (.int (2 : Int32)), .val (.int (0 : Int32)), .val (.int (0 : Int32)), .val (.int (0 : Int32)), .val (.int (1 : Int32))]) (stk := [(.int (0 : Int32)), (.int (0 : Int32)), (.ref a2_)]) (by rw [hml]; rfl) (argsL := [(.int (0 : Int32)), (.int (0 : Int32))]) (rest := []) (lenOf pd1 rfl) rfl rfl (Nat.le_of_eq rfl) (hb hby at_136)
        obtain ⟨rfl, Nq192, e192⟩ := hQ192
        have N192 := Fr.app N134 Nq192
        refine OGo.st st192 ?_
        show OGo p.tables e below Φ (T192.setTop (mkF m 139 #[.val (.int xk), .val (.int xa), .val (.int xb), .val (.ref b1), .val (.ref b74), .val (.int (2 : Int32)), .val (.int (0 : Int32)), .val (.int (0 : Int32)), .val (.int (0 : Int32)), .val (.int (1 : Int32))] [(.int (own_ap2 (0 : Int32) (0 : Int32)))]))
        refine OGo.st (fun _ kz => XS.iload X192.here hx rfl (hb hby at_139) rfl kz) ?_
        show OGo p.tables e below Φ (T192.setTop (mkF m 141 #[.val (.int xk), .val (.int xa), .val (.int xb), .val (.ref b1), .val (.ref b74), .val (.int (2 : Int32)), .val (.int (0 : Int32)), .val (.int (0 : Int32)), .val (.int (0 : Int32)), .val (.int (1 : Int32))] [(.int (1 : Int32)), (.int (own_ap2 (0 : Int32) (0 : Int32)))]))
        by_cases hc193 : (own_ap2 (0 : Int32) (0 : Int32)) = (1 : Int32)
        · refine OGo.st (fun _ kz => XS.icmpNo X192.here hx rfl (hb hby at_141) rfl (XT.ii_ne_f hc193) kz) ?_
          show OGo p.tables e below Φ (T192.setTop (mkF m 144 #[.val (.int xk), .val (.int xa), .val (.int xb), .val (.ref b1), .val (.ref b74), .val (.int (2 : Int32)), .val (.int (0 : Int32)), .val (.int (0 : Int32)), .val (.int (0 : Int32)), .val (.int (1 : Int32))] []))
          refine OGo.st (fun _ kz => XS.iconst X192.here hx rfl (hb hby at_144) kz) ?_
          show OGo p.tables e below Φ (T192.setTop (mkF m 145 #[.val (.int xk), .val (.int xa), .val (.int xb), .val (.ref b1), .val (.ref b74), .val (.int (2 : Int32)), .val (.int (0 : Int32)), .val (.int (0 : Int32)), .val (.int (0 : Int32)), .val (.int (1 : Int32))] [(.int (1 : Int32))]))
          refine OGo.st (fun _ kz => XS.goto X192.here hx rfl (pc0 := 145) (pc' := 149) rfl (hb hby at_145) (by decide) (by decide) kz) ?_
          show OGo p.tables e below Φ (T192.setTop (mkF m 149 #[.val (.int xk), .val (.int xa), .val (.int xb), .val (.ref b1), .val (.ref b74), .val (.int (2 : Int32)), .val (.int (0 : Int32)), .val (.int (0 : Int32)), .val (.int (0 : Int32)), .val (.int (1 : Int32))] [(.int (1 : Int32))]))
          refine OGo.fin X192 hlk (v := (some (.int (1 : Int32)))) (fun h => by rw [hret] at h; cases h) (by decide) (by decide) (fun fs hr => X192.ireturnOut hx hret rfl (by simp) (hb hby at_149) hr) fun U eU hF => hΦ _ _ _ ?_ hF
          rw [eU, e192]
          show Q_rm0 Z xk xa xb a0_ a1_ a2_ a3_ h0 n0 _ _ _
          exact ⟨rfl, N192⟩
        · refine OGo.st (fun _ kz => XS.icmpYes X192.here hx rfl (pc0 := 141) (pc' := 148) rfl (hb hby at_141) rfl (XT.ii_ne_t hc193) (by decide) (by decide) kz) ?_
          show OGo p.tables e below Φ (T192.setTop (mkF m 148 #[.val (.int xk), .val (.int xa), .val (.int xb), .val (.ref b1), .val (.ref b74), .val (.int (2 : Int32)), .val (.int (0 : Int32)), .val (.int (0 : Int32)), .val (.int (0 : Int32)), .val (.int (1 : Int32))] []))
          refine OGo.st (fun _ kz => XS.iconst X192.here hx rfl (hb hby at_148) kz) ?_
          show OGo p.tables e below Φ (T192.setTop (mkF m 149 #[.val (.int xk), .val (.int xa), .val (.int xb), .val (.ref b1), .val (.ref b74), .val (.int (2 : Int32)), .val (.int (0 : Int32)), .val (.int (0 : Int32)), .val (.int (0 : Int32)), .val (.int (1 : Int32))] [(.int (0 : Int32))]))
          exact absurd (by decide) hc193
      · refine OGo.st (fun _ kz => XS.ifNo X134.here hx rfl (hb hby at_75) rfl (XT.i0_eq_f hc189) kz) ?_
        show OGo p.tables e below Φ (T134.setTop (mkF m 78 #[.val (.int xk), .val (.int xa), .val (.int xb), .val (.ref b1), .val (.ref b74), .val (.int (2 : Int32)), .val (.int (0 : Int32)), .unset, .unset, .unset] []))
        refine OGo.st (fun _ kz => XS.iconst X134.here hx rfl (hb hby at_78) kz) ?_
        show OGo p.tables e below Φ (T134.setTop (mkF m 79 #[.val (.int xk), .val (.int xa), .val (.int xb), .val (.ref b1), .val (.ref b74), .val (.int (2 : Int32)), .val (.int (0 : Int32)), .unset, .unset, .unset] [(.int (1 : Int32))]))
        refine OGo.st (fun _ kz => XS.goto X134.here hx rfl (pc0 := 79) (pc' := 83) rfl (hb hby at_79) (by decide) (by decide) kz) ?_
        show OGo p.tables e below Φ (T134.setTop (mkF m 83 #[.val (.int xk), .val (.int xa), .val (.int xb), .val (.ref b1), .val (.ref b74), .val (.int (2 : Int32)), .val (.int (0 : Int32)), .unset, .unset, .unset] [(.int (1 : Int32))]))
        refine OGo.st (fun _ kz => XS.istore X134.here hx rfl (hb hby at_83) rfl (l' := #[.val (.int xk), .val (.int xa), .val (.int xb), .val (.ref b1), .val (.ref b74), .val (.int (2 : Int32)), .val (.int (0 : Int32)), .val (.int (1 : Int32)), .unset, .unset]) rfl kz) ?_
        show OGo p.tables e below Φ (T134.setTop (mkF m 85 #[.val (.int xk), .val (.int xa), .val (.int xb), .val (.ref b1), .val (.ref b74), .val (.int (2 : Int32)), .val (.int (0 : Int32)), .val (.int (1 : Int32)), .unset, .unset] []))
        refine OGo.st (fun _ kz => XS.iload X134.here hx rfl (hb hby at_85) rfl kz) ?_
        show OGo p.tables e below Φ (T134.setTop (mkF m 87 #[.val (.int xk), .val (.int xa), .val (.int xb), .val (.ref b1), .val (.ref b74), .val (.int (2 : Int32)), .val (.int (0 : Int32)), .val (.int (1 : Int32)), .unset, .unset] [(.int (0 : Int32))]))
        refine OGo.st (fun _ kz => XS.ifYes X134.here hx rfl (pc0 := 87) (pc' := 94) rfl (hb hby at_87) rfl (XT.i0_eq_t (by decide)) (by decide) (by decide) kz) ?_
        show OGo p.tables e below Φ (T134.setTop (mkF m 94 #[.val (.int xk), .val (.int xa), .val (.int xb), .val (.ref b1), .val (.ref b74), .val (.int (2 : Int32)), .val (.int (0 : Int32)), .val (.int (1 : Int32)), .unset, .unset] []))
        refine OGo.st (fun _ kz => XS.iconst X134.here hx rfl (hb hby at_94) kz) ?_
        show OGo p.tables e below Φ (T134.setTop (mkF m 95 #[.val (.int xk), .val (.int xa), .val (.int xb), .val (.ref b1), .val (.ref b74), .val (.int (2 : Int32)), .val (.int (0 : Int32)), .val (.int (1 : Int32)), .unset, .unset] [(.int (0 : Int32))]))
        refine OGo.st (fun _ kz => XS.iload X134.here hx rfl (hb hby at_95) rfl kz) ?_
        show OGo p.tables e below Φ (T134.setTop (mkF m 97 #[.val (.int xk), .val (.int xa), .val (.int xb), .val (.ref b1), .val (.ref b74), .val (.int (2 : Int32)), .val (.int (0 : Int32)), .val (.int (1 : Int32)), .unset, .unset] [(.int (1 : Int32)), (.int (0 : Int32))]))
        refine OGo.st (fun _ kz => XS.ifNo X134.here hx rfl (hb hby at_97) rfl (XT.i0_eq_f (by decide)) kz) ?_
        show OGo p.tables e below Φ (T134.setTop (mkF m 100 #[.val (.int xk), .val (.int xa), .val (.int xb), .val (.ref b1), .val (.ref b74), .val (.int (2 : Int32)), .val (.int (0 : Int32)), .val (.int (1 : Int32)), .unset, .unset] [(.int (0 : Int32))]))
        refine OGo.st (fun _ kz => XS.iconst X134.here hx rfl (hb hby at_100) kz) ?_
        show OGo p.tables e below Φ (T134.setTop (mkF m 101 #[.val (.int xk), .val (.int xa), .val (.int xb), .val (.ref b1), .val (.ref b74), .val (.int (2 : Int32)), .val (.int (0 : Int32)), .val (.int (1 : Int32)), .unset, .unset] [(.int (1 : Int32)), (.int (0 : Int32))]))
        refine OGo.st (fun _ kz => XS.goto X134.here hx rfl (pc0 := 101) (pc' := 105) rfl (hb hby at_101) (by decide) (by decide) kz) ?_
        show OGo p.tables e below Φ (T134.setTop (mkF m 105 #[.val (.int xk), .val (.int xa), .val (.int xb), .val (.ref b1), .val (.ref b74), .val (.int (2 : Int32)), .val (.int (0 : Int32)), .val (.int (1 : Int32)), .unset, .unset] [(.int (1 : Int32)), (.int (0 : Int32))]))
        refine OGo.st (fun _ kz => XS.iadd X134.here hx rfl (hb hby at_105) rfl kz) ?_
        show OGo p.tables e below Φ (T134.setTop (mkF m 106 #[.val (.int xk), .val (.int xa), .val (.int xb), .val (.ref b1), .val (.ref b74), .val (.int (2 : Int32)), .val (.int (0 : Int32)), .val (.int (1 : Int32)), .unset, .unset] [(.int (1 : Int32))]))
        refine OGo.st (fun _ kz => XS.istore X134.here hx rfl (hb hby at_106) rfl (l' := #[.val (.int xk), .val (.int xa), .val (.int xb), .val (.ref b1), .val (.ref b74), .val (.int (2 : Int32)), .val (.int (0 : Int32)), .val (.int (1 : Int32)), .val (.int (1 : Int32)), .unset]) rfl kz) ?_
        show OGo p.tables e below Φ (T134.setTop (mkF m 108 #[.val (.int xk), .val (.int xa), .val (.int xb), .val (.ref b1), .val (.ref b74), .val (.int (2 : Int32)), .val (.int (0 : Int32)), .val (.int (1 : Int32)), .val (.int (1 : Int32)), .unset] []))
        refine OGo.st (fun _ kz => XS.aload X134.here hx rfl (hb hby at_108) rfl rfl kz) ?_
        show OGo p.tables e below Φ (T134.setTop (mkF m 110 #[.val (.int xk), .val (.int xa), .val (.int xb), .val (.ref b1), .val (.ref b74), .val (.int (2 : Int32)), .val (.int (0 : Int32)), .val (.int (1 : Int32)), .val (.int (1 : Int32)), .unset] [(.ref b74)]))
        refine OGo.st (fun _ kz => XS.iload X134.here hx rfl (hb hby at_110) rfl kz) ?_
        show OGo p.tables e below Φ (T134.setTop (mkF m 112 #[.val (.int xk), .val (.int xa), .val (.int xb), .val (.ref b1), .val (.ref b74), .val (.int (2 : Int32)), .val (.int (0 : Int32)), .val (.int (1 : Int32)), .val (.int (1 : Int32)), .unset] [(.int (2 : Int32)), (.ref b74)]))
        obtain ⟨cl194, Aq194, -, S194, M194, H194, -⟩ := id V134
        have in194 : ¬ ((2 : Int32) < 0 ∨ cl194.slots.size ≤ (2 : Int32).toNatClampNeg) := inb_of S194 ⟨by decide, by decide⟩
        have at194 : cl194.slots[(2 : Int32).toNatClampNeg]? = some (.int (11 : Int32)) := H194.at in194 rfl
        refine OGo.st (fun _ kz => X134.iaload hx (by rw [e134]; exact Aq194.1) (State.isArrayOf_alike hZ.alike Aq194.2.1) Aq194.2.2 in194 at194 (g := (mkF m 112 #[.val (.int xk), .val (.int xa), .val (.int xb), .val (.ref b1), .val (.ref b74), .val (.int (2 : Int32)), .val (.int (0 : Int32)), .val (.int (1 : Int32)), .val (.int (1 : Int32)), .unset] [(.int (2 : Int32)), (.ref b74)])) rfl rfl (hb hby at_112) _ kz) ?_
        show OGo p.tables e below Φ (T134.setTop (mkF m 113 #[.val (.int xk), .val (.int xa), .val (.int xb), .val (.ref b1), .val (.ref b74), .val (.int (2 : Int32)), .val (.int (0 : Int32)), .val (.int (1 : Int32)), .val (.int (1 : Int32)), .unset] [(.int (11 : Int32))]))
        refine OGo.st (fun _ kz => XS.iload X134.here hx rfl (hb hby at_113) rfl kz) ?_
        show OGo p.tables e below Φ (T134.setTop (mkF m 115 #[.val (.int xk), .val (.int xa), .val (.int xb), .val (.ref b1), .val (.ref b74), .val (.int (2 : Int32)), .val (.int (0 : Int32)), .val (.int (1 : Int32)), .val (.int (1 : Int32)), .unset] [(.int (1 : Int32)), (.int (11 : Int32))]))
        refine OGo.st (fun _ kz => XT.ishr X134.here hx rfl (hb hby at_115) rfl kz) ?_
        show OGo p.tables e below Φ (T134.setTop (mkF m 116 #[.val (.int xk), .val (.int xa), .val (.int xb), .val (.ref b1), .val (.ref b74), .val (.int (2 : Int32)), .val (.int (0 : Int32)), .val (.int (1 : Int32)), .val (.int (1 : Int32)), .unset] [(.int (5 : Int32))]))
        refine OGo.st (fun _ kz => XS.iconst X134.here hx rfl (hb hby at_116) kz) ?_
        show OGo p.tables e below Φ (T134.setTop (mkF m 117 #[.val (.int xk), .val (.int xa), .val (.int xb), .val (.ref b1), .val (.ref b74), .val (.int (2 : Int32)), .val (.int (0 : Int32)), .val (.int (1 : Int32)), .val (.int (1 : Int32)), .unset] [(.int (1 : Int32)), (.int (5 : Int32))]))
        refine OGo.st (fun _ kz => XS.iand X134.here hx rfl (hb hby at_117) rfl kz) ?_
        show OGo p.tables e below Φ (T134.setTop (mkF m 118 #[.val (.int xk), .val (.int xa), .val (.int xb), .val (.ref b1), .val (.ref b74), .val (.int (2 : Int32)), .val (.int (0 : Int32)), .val (.int (1 : Int32)), .val (.int (1 : Int32)), .unset] [(.int (1 : Int32))]))
        refine OGo.st (fun _ kz => XS.ifNo X134.here hx rfl (hb hby at_118) rfl (XT.i0_eq_f (by decide)) kz) ?_
        show OGo p.tables e below Φ (T134.setTop (mkF m 121 #[.val (.int xk), .val (.int xa), .val (.int xb), .val (.ref b1), .val (.ref b74), .val (.int (2 : Int32)), .val (.int (0 : Int32)), .val (.int (1 : Int32)), .val (.int (1 : Int32)), .unset] []))
        refine OGo.st (fun _ kz => XS.iconst X134.here hx rfl (hb hby at_121) kz) ?_
        show OGo p.tables e below Φ (T134.setTop (mkF m 122 #[.val (.int xk), .val (.int xa), .val (.int xb), .val (.ref b1), .val (.ref b74), .val (.int (2 : Int32)), .val (.int (0 : Int32)), .val (.int (1 : Int32)), .val (.int (1 : Int32)), .unset] [(.int (1 : Int32))]))
        refine OGo.st (fun _ kz => XS.goto X134.here hx rfl (pc0 := 122) (pc' := 126) rfl (hb hby at_122) (by decide) (by decide) kz) ?_
        show OGo p.tables e below Φ (T134.setTop (mkF m 126 #[.val (.int xk), .val (.int xa), .val (.int xb), .val (.ref b1), .val (.ref b74), .val (.int (2 : Int32)), .val (.int (0 : Int32)), .val (.int (1 : Int32)), .val (.int (1 : Int32)), .unset] [(.int (1 : Int32))]))
        refine OGo.st (fun _ kz => XS.istore X134.here hx rfl (hb hby at_126) rfl (l' := #[.val (.int xk), .val (.int xa), .val (.int xb), .val (.ref b1), .val (.ref b74), .val (.int (2 : Int32)), .val (.int (0 : Int32)), .val (.int (1 : Int32)), .val (.int (1 : Int32)), .val (.int (1 : Int32))]) rfl kz) ?_
        show OGo p.tables e below Φ (T134.setTop (mkF m 128 #[.val (.int xk), .val (.int xa), .val (.int xb), .val (.ref b1), .val (.ref b74), .val (.int (2 : Int32)), .val (.int (0 : Int32)), .val (.int (1 : Int32)), .val (.int (1 : Int32)), .val (.int (1 : Int32))] []))
        refine OGo.st (fun _ kz => XS.aloadN X134.here hx rfl (hb hby at_128) rfl rfl kz) ?_
        show OGo p.tables e below Φ (T134.setTop (mkF m 129 #[.val (.int xk), .val (.int xa), .val (.int xb), .val (.ref b1), .val (.ref b74), .val (.int (2 : Int32)), .val (.int (0 : Int32)), .val (.int (1 : Int32)), .val (.int (1 : Int32)), .val (.int (1 : Int32))] [(.ref b1)]))
        refine OGo.st (fun _ kz => XS.iload X134.here hx rfl (hb hby at_129) rfl kz) ?_
        show OGo p.tables e below Φ (T134.setTop (mkF m 131 #[.val (.int xk), .val (.int xa), .val (.int xb), .val (.ref b1), .val (.ref b74), .val (.int (2 : Int32)), .val (.int (0 : Int32)), .val (.int (1 : Int32)), .val (.int (1 : Int32)), .val (.int (1 : Int32))] [(.int (2 : Int32)), (.ref b1)]))
        obtain ⟨cl195, Aq195, -, S195, M195, H195, -⟩ := id F148
        have in195 : ¬ ((2 : Int32) < 0 ∨ cl195.slots.size ≤ (2 : Int32).toNatClampNeg) := inb_of S195 ⟨by decide, by decide⟩
        have at195 : cl195.slots[(2 : Int32).toNatClampNeg]? = some (.ref a2_) := H195.at in195 rfl
        refine OGo.st (fun _ kz => X134.aaload hx (by rw [e134]; exact Aq195.1) (State.isArrayOf_alike hZ.alike Aq195.2.1) rfl Aq195.2.2 in195 at195 (g := (mkF m 131 #[.val (.int xk), .val (.int xa), .val (.int xb), .val (.ref b1), .val (.ref b74), .val (.int (2 : Int32)), .val (.int (0 : Int32)), .val (.int (1 : Int32)), .val (.int (1 : Int32)), .val (.int (1 : Int32))] [(.int (2 : Int32)), (.ref b1)])) rfl rfl (hb hby at_131) _ kz) ?_
        show OGo p.tables e below Φ (T134.setTop (mkF m 132 #[.val (.int xk), .val (.int xa), .val (.int xb), .val (.ref b1), .val (.ref b74), .val (.int (2 : Int32)), .val (.int (0 : Int32)), .val (.int (1 : Int32)), .val (.int (1 : Int32)), .val (.int (1 : Int32))] [(.ref a2_)]))
        refine OGo.st (fun _ kz => XS.iload X134.here hx rfl (hb hby at_132) rfl kz) ?_
        show OGo p.tables e below Φ (T134.setTop (mkF m 134 #[.val (.int xk), .val (.int xa), .val (.int xb), .val (.ref b1), .val (.ref b74), .val (.int (2 : Int32)), .val (.int (0 : Int32)), .val (.int (1 : Int32)), .val (.int (1 : Int32)), .val (.int (1 : Int32))] [(.int (0 : Int32)), (.ref a2_)]))
        refine OGo.st (fun _ kz => XS.iload X134.here hx rfl (hb hby at_134) rfl kz) ?_
        show OGo p.tables e below Φ (T134.setTop (mkF m 136 #[.val (.int xk), .val (.int xa), .val (.int xb), .val (.ref b1), .val (.ref b74), .val (.int (2 : Int32)), .val (.int (0 : Int32)), .val (.int (1 : Int32)), .val (.int (1 : Int32)), .val (.int (1 : Int32))] [(.int (1 : Int32)), (.int (0 : Int32)), (.ref a2_)]))
        obtain ⟨_, T196, L196, X196, hQ196, st196⟩ := own_callVi X134 hx hZ hown (ow13 hw) (ow14 hw) (notFace_of_selects (args := #[]) (mvT hZ (ow16 hw))) (ow16 hw) (ow15 hw) (ow3 hw) (ow17 hw) (by decide) (rm2_2 l Z a0 hw [] a2_ (0 : Int32) (1 : Int32) h134 n0 Zs134 F143 F142) e134 (W := 0) (by decide) (by decide) (by decide) (by decide) F142 (pc := 136) (ls := #[.val (.int xk), .val (.int xa), .val (.int xb), .val (.ref b1), .val (.ref b74), .val (.int (2 : Int32)), .val (.int (0 : Int32)), .val (.int (1 : Int32)), .val (.int (1 : Int32)), .val (.int (1 : Int32))]) (stk := [(.int (1 : Int32)), (.int (0 : Int32)), (.ref a2_)]) (by rw [hml]; rfl) (argsL := [(.int (0 : Int32)), (.int (1 : Int32))]) (rest := []) (lenOf pd1 rfl) rfl rfl (Nat.le_of_eq rfl) (hb hby at_136)
        obtain ⟨rfl, Nq196, e196⟩ := hQ196
        have N196 := Fr.app N134 Nq196
        refine OGo.st st196 ?_
        show OGo p.tables e below Φ (T196.setTop (mkF m 139 #[.val (.int xk), .val (.int xa), .val (.int xb), .val (.ref b1), .val (.ref b74), .val (.int (2 : Int32)), .val (.int (0 : Int32)), .val (.int (1 : Int32)), .val (.int (1 : Int32)), .val (.int (1 : Int32))] [(.int (own_ap2 (0 : Int32) (1 : Int32)))]))
        refine OGo.st (fun _ kz => XS.iload X196.here hx rfl (hb hby at_139) rfl kz) ?_
        show OGo p.tables e below Φ (T196.setTop (mkF m 141 #[.val (.int xk), .val (.int xa), .val (.int xb), .val (.ref b1), .val (.ref b74), .val (.int (2 : Int32)), .val (.int (0 : Int32)), .val (.int (1 : Int32)), .val (.int (1 : Int32)), .val (.int (1 : Int32))] [(.int (1 : Int32)), (.int (own_ap2 (0 : Int32) (1 : Int32)))]))
        by_cases hc197 : (own_ap2 (0 : Int32) (1 : Int32)) = (1 : Int32)
        · refine OGo.st (fun _ kz => XS.icmpNo X196.here hx rfl (hb hby at_141) rfl (XT.ii_ne_f hc197) kz) ?_
          show OGo p.tables e below Φ (T196.setTop (mkF m 144 #[.val (.int xk), .val (.int xa), .val (.int xb), .val (.ref b1), .val (.ref b74), .val (.int (2 : Int32)), .val (.int (0 : Int32)), .val (.int (1 : Int32)), .val (.int (1 : Int32)), .val (.int (1 : Int32))] []))
          refine OGo.st (fun _ kz => XS.iconst X196.here hx rfl (hb hby at_144) kz) ?_
          show OGo p.tables e below Φ (T196.setTop (mkF m 145 #[.val (.int xk), .val (.int xa), .val (.int xb), .val (.ref b1), .val (.ref b74), .val (.int (2 : Int32)), .val (.int (0 : Int32)), .val (.int (1 : Int32)), .val (.int (1 : Int32)), .val (.int (1 : Int32))] [(.int (1 : Int32))]))
          refine OGo.st (fun _ kz => XS.goto X196.here hx rfl (pc0 := 145) (pc' := 149) rfl (hb hby at_145) (by decide) (by decide) kz) ?_
          show OGo p.tables e below Φ (T196.setTop (mkF m 149 #[.val (.int xk), .val (.int xa), .val (.int xb), .val (.ref b1), .val (.ref b74), .val (.int (2 : Int32)), .val (.int (0 : Int32)), .val (.int (1 : Int32)), .val (.int (1 : Int32)), .val (.int (1 : Int32))] [(.int (1 : Int32))]))
          refine OGo.fin X196 hlk (v := (some (.int (1 : Int32)))) (fun h => by rw [hret] at h; cases h) (by decide) (by decide) (fun fs hr => X196.ireturnOut hx hret rfl (by simp) (hb hby at_149) hr) fun U eU hF => hΦ _ _ _ ?_ hF
          rw [eU, e196]
          show Q_rm0 Z xk xa xb a0_ a1_ a2_ a3_ h0 n0 _ _ _
          exact ⟨rfl, N196⟩
        · refine OGo.st (fun _ kz => XS.icmpYes X196.here hx rfl (pc0 := 141) (pc' := 148) rfl (hb hby at_141) rfl (XT.ii_ne_t hc197) (by decide) (by decide) kz) ?_
          show OGo p.tables e below Φ (T196.setTop (mkF m 148 #[.val (.int xk), .val (.int xa), .val (.int xb), .val (.ref b1), .val (.ref b74), .val (.int (2 : Int32)), .val (.int (0 : Int32)), .val (.int (1 : Int32)), .val (.int (1 : Int32)), .val (.int (1 : Int32))] []))
          refine OGo.st (fun _ kz => XS.iconst X196.here hx rfl (hb hby at_148) kz) ?_
          show OGo p.tables e below Φ (T196.setTop (mkF m 149 #[.val (.int xk), .val (.int xa), .val (.int xb), .val (.ref b1), .val (.ref b74), .val (.int (2 : Int32)), .val (.int (0 : Int32)), .val (.int (1 : Int32)), .val (.int (1 : Int32)), .val (.int (1 : Int32))] [(.int (0 : Int32))]))
          exact absurd (by decide) hc197
    · refine OGo.st (fun _ kz => XS.ifNo X134.here hx rfl (hb hby at_62) rfl (XT.i0_eq_f hc188) kz) ?_
      show OGo p.tables e below Φ (T134.setTop (mkF m 65 #[.val (.int xk), .val (.int xa), .val (.int xb), .val (.ref b1), .val (.ref b74), .val (.int (2 : Int32)), .unset, .unset, .unset, .unset] []))
      refine OGo.st (fun _ kz => XS.iconst X134.here hx rfl (hb hby at_65) kz) ?_
      show OGo p.tables e below Φ (T134.setTop (mkF m 66 #[.val (.int xk), .val (.int xa), .val (.int xb), .val (.ref b1), .val (.ref b74), .val (.int (2 : Int32)), .unset, .unset, .unset, .unset] [(.int (1 : Int32))]))
      refine OGo.st (fun _ kz => XS.goto X134.here hx rfl (pc0 := 66) (pc' := 70) rfl (hb hby at_66) (by decide) (by decide) kz) ?_
      show OGo p.tables e below Φ (T134.setTop (mkF m 70 #[.val (.int xk), .val (.int xa), .val (.int xb), .val (.ref b1), .val (.ref b74), .val (.int (2 : Int32)), .unset, .unset, .unset, .unset] [(.int (1 : Int32))]))
      refine OGo.st (fun _ kz => XS.istore X134.here hx rfl (hb hby at_70) rfl (l' := #[.val (.int xk), .val (.int xa), .val (.int xb), .val (.ref b1), .val (.ref b74), .val (.int (2 : Int32)), .val (.int (1 : Int32)), .unset, .unset, .unset]) rfl kz) ?_
      show OGo p.tables e below Φ (T134.setTop (mkF m 72 #[.val (.int xk), .val (.int xa), .val (.int xb), .val (.ref b1), .val (.ref b74), .val (.int (2 : Int32)), .val (.int (1 : Int32)), .unset, .unset, .unset] []))
      refine OGo.st (fun _ kz => XS.iloadN X134.here hx rfl (hb hby at_72) rfl kz) ?_
      show OGo p.tables e below Φ (T134.setTop (mkF m 73 #[.val (.int xk), .val (.int xa), .val (.int xb), .val (.ref b1), .val (.ref b74), .val (.int (2 : Int32)), .val (.int (1 : Int32)), .unset, .unset, .unset] [(.int xb)]))
      refine OGo.st (fun _ kz => XS.iconst X134.here hx rfl (hb hby at_73) kz) ?_
      show OGo p.tables e below Φ (T134.setTop (mkF m 74 #[.val (.int xk), .val (.int xa), .val (.int xb), .val (.ref b1), .val (.ref b74), .val (.int (2 : Int32)), .val (.int (1 : Int32)), .unset, .unset, .unset] [(.int (1 : Int32)), (.int xb)]))
      refine OGo.st (fun _ kz => XS.iand X134.here hx rfl (hb hby at_74) rfl kz) ?_
      show OGo p.tables e below Φ (T134.setTop (mkF m 75 #[.val (.int xk), .val (.int xa), .val (.int xb), .val (.ref b1), .val (.ref b74), .val (.int (2 : Int32)), .val (.int (1 : Int32)), .unset, .unset, .unset] [(.int (xb &&& (1 : Int32)))]))
      by_cases hc198 : (xb &&& (1 : Int32)) = 0
      · refine OGo.st (fun _ kz => XS.ifYes X134.here hx rfl (pc0 := 75) (pc' := 82) rfl (hb hby at_75) rfl (XT.i0_eq_t hc198) (by decide) (by decide) kz) ?_
        show OGo p.tables e below Φ (T134.setTop (mkF m 82 #[.val (.int xk), .val (.int xa), .val (.int xb), .val (.ref b1), .val (.ref b74), .val (.int (2 : Int32)), .val (.int (1 : Int32)), .unset, .unset, .unset] []))
        refine OGo.st (fun _ kz => XS.iconst X134.here hx rfl (hb hby at_82) kz) ?_
        show OGo p.tables e below Φ (T134.setTop (mkF m 83 #[.val (.int xk), .val (.int xa), .val (.int xb), .val (.ref b1), .val (.ref b74), .val (.int (2 : Int32)), .val (.int (1 : Int32)), .unset, .unset, .unset] [(.int (0 : Int32))]))
        refine OGo.st (fun _ kz => XS.istore X134.here hx rfl (hb hby at_83) rfl (l' := #[.val (.int xk), .val (.int xa), .val (.int xb), .val (.ref b1), .val (.ref b74), .val (.int (2 : Int32)), .val (.int (1 : Int32)), .val (.int (0 : Int32)), .unset, .unset]) rfl kz) ?_
        show OGo p.tables e below Φ (T134.setTop (mkF m 85 #[.val (.int xk), .val (.int xa), .val (.int xb), .val (.ref b1), .val (.ref b74), .val (.int (2 : Int32)), .val (.int (1 : Int32)), .val (.int (0 : Int32)), .unset, .unset] []))
        refine OGo.st (fun _ kz => XS.iload X134.here hx rfl (hb hby at_85) rfl kz) ?_
        show OGo p.tables e below Φ (T134.setTop (mkF m 87 #[.val (.int xk), .val (.int xa), .val (.int xb), .val (.ref b1), .val (.ref b74), .val (.int (2 : Int32)), .val (.int (1 : Int32)), .val (.int (0 : Int32)), .unset, .unset] [(.int (1 : Int32))]))
        refine OGo.st (fun _ kz => XS.ifNo X134.here hx rfl (hb hby at_87) rfl (XT.i0_eq_f (by decide)) kz) ?_
        show OGo p.tables e below Φ (T134.setTop (mkF m 90 #[.val (.int xk), .val (.int xa), .val (.int xb), .val (.ref b1), .val (.ref b74), .val (.int (2 : Int32)), .val (.int (1 : Int32)), .val (.int (0 : Int32)), .unset, .unset] []))
        refine OGo.st (fun _ kz => XS.iconst X134.here hx rfl (hb hby at_90) kz) ?_
        show OGo p.tables e below Φ (T134.setTop (mkF m 91 #[.val (.int xk), .val (.int xa), .val (.int xb), .val (.ref b1), .val (.ref b74), .val (.int (2 : Int32)), .val (.int (1 : Int32)), .val (.int (0 : Int32)), .unset, .unset] [(.int (2 : Int32))]))
        refine OGo.st (fun _ kz => XS.goto X134.here hx rfl (pc0 := 91) (pc' := 95) rfl (hb hby at_91) (by decide) (by decide) kz) ?_
        show OGo p.tables e below Φ (T134.setTop (mkF m 95 #[.val (.int xk), .val (.int xa), .val (.int xb), .val (.ref b1), .val (.ref b74), .val (.int (2 : Int32)), .val (.int (1 : Int32)), .val (.int (0 : Int32)), .unset, .unset] [(.int (2 : Int32))]))
        refine OGo.st (fun _ kz => XS.iload X134.here hx rfl (hb hby at_95) rfl kz) ?_
        show OGo p.tables e below Φ (T134.setTop (mkF m 97 #[.val (.int xk), .val (.int xa), .val (.int xb), .val (.ref b1), .val (.ref b74), .val (.int (2 : Int32)), .val (.int (1 : Int32)), .val (.int (0 : Int32)), .unset, .unset] [(.int (0 : Int32)), (.int (2 : Int32))]))
        refine OGo.st (fun _ kz => XS.ifYes X134.here hx rfl (pc0 := 97) (pc' := 104) rfl (hb hby at_97) rfl (XT.i0_eq_t (by decide)) (by decide) (by decide) kz) ?_
        show OGo p.tables e below Φ (T134.setTop (mkF m 104 #[.val (.int xk), .val (.int xa), .val (.int xb), .val (.ref b1), .val (.ref b74), .val (.int (2 : Int32)), .val (.int (1 : Int32)), .val (.int (0 : Int32)), .unset, .unset] [(.int (2 : Int32))]))
        refine OGo.st (fun _ kz => XS.iconst X134.here hx rfl (hb hby at_104) kz) ?_
        show OGo p.tables e below Φ (T134.setTop (mkF m 105 #[.val (.int xk), .val (.int xa), .val (.int xb), .val (.ref b1), .val (.ref b74), .val (.int (2 : Int32)), .val (.int (1 : Int32)), .val (.int (0 : Int32)), .unset, .unset] [(.int (0 : Int32)), (.int (2 : Int32))]))
        refine OGo.st (fun _ kz => XS.iadd X134.here hx rfl (hb hby at_105) rfl kz) ?_
        show OGo p.tables e below Φ (T134.setTop (mkF m 106 #[.val (.int xk), .val (.int xa), .val (.int xb), .val (.ref b1), .val (.ref b74), .val (.int (2 : Int32)), .val (.int (1 : Int32)), .val (.int (0 : Int32)), .unset, .unset] [(.int (2 : Int32))]))
        refine OGo.st (fun _ kz => XS.istore X134.here hx rfl (hb hby at_106) rfl (l' := #[.val (.int xk), .val (.int xa), .val (.int xb), .val (.ref b1), .val (.ref b74), .val (.int (2 : Int32)), .val (.int (1 : Int32)), .val (.int (0 : Int32)), .val (.int (2 : Int32)), .unset]) rfl kz) ?_
        show OGo p.tables e below Φ (T134.setTop (mkF m 108 #[.val (.int xk), .val (.int xa), .val (.int xb), .val (.ref b1), .val (.ref b74), .val (.int (2 : Int32)), .val (.int (1 : Int32)), .val (.int (0 : Int32)), .val (.int (2 : Int32)), .unset] []))
        refine OGo.st (fun _ kz => XS.aload X134.here hx rfl (hb hby at_108) rfl rfl kz) ?_
        show OGo p.tables e below Φ (T134.setTop (mkF m 110 #[.val (.int xk), .val (.int xa), .val (.int xb), .val (.ref b1), .val (.ref b74), .val (.int (2 : Int32)), .val (.int (1 : Int32)), .val (.int (0 : Int32)), .val (.int (2 : Int32)), .unset] [(.ref b74)]))
        refine OGo.st (fun _ kz => XS.iload X134.here hx rfl (hb hby at_110) rfl kz) ?_
        show OGo p.tables e below Φ (T134.setTop (mkF m 112 #[.val (.int xk), .val (.int xa), .val (.int xb), .val (.ref b1), .val (.ref b74), .val (.int (2 : Int32)), .val (.int (1 : Int32)), .val (.int (0 : Int32)), .val (.int (2 : Int32)), .unset] [(.int (2 : Int32)), (.ref b74)]))
        obtain ⟨cl199, Aq199, -, S199, M199, H199, -⟩ := id V134
        have in199 : ¬ ((2 : Int32) < 0 ∨ cl199.slots.size ≤ (2 : Int32).toNatClampNeg) := inb_of S199 ⟨by decide, by decide⟩
        have at199 : cl199.slots[(2 : Int32).toNatClampNeg]? = some (.int (11 : Int32)) := H199.at in199 rfl
        refine OGo.st (fun _ kz => X134.iaload hx (by rw [e134]; exact Aq199.1) (State.isArrayOf_alike hZ.alike Aq199.2.1) Aq199.2.2 in199 at199 (g := (mkF m 112 #[.val (.int xk), .val (.int xa), .val (.int xb), .val (.ref b1), .val (.ref b74), .val (.int (2 : Int32)), .val (.int (1 : Int32)), .val (.int (0 : Int32)), .val (.int (2 : Int32)), .unset] [(.int (2 : Int32)), (.ref b74)])) rfl rfl (hb hby at_112) _ kz) ?_
        show OGo p.tables e below Φ (T134.setTop (mkF m 113 #[.val (.int xk), .val (.int xa), .val (.int xb), .val (.ref b1), .val (.ref b74), .val (.int (2 : Int32)), .val (.int (1 : Int32)), .val (.int (0 : Int32)), .val (.int (2 : Int32)), .unset] [(.int (11 : Int32))]))
        refine OGo.st (fun _ kz => XS.iload X134.here hx rfl (hb hby at_113) rfl kz) ?_
        show OGo p.tables e below Φ (T134.setTop (mkF m 115 #[.val (.int xk), .val (.int xa), .val (.int xb), .val (.ref b1), .val (.ref b74), .val (.int (2 : Int32)), .val (.int (1 : Int32)), .val (.int (0 : Int32)), .val (.int (2 : Int32)), .unset] [(.int (2 : Int32)), (.int (11 : Int32))]))
        refine OGo.st (fun _ kz => XT.ishr X134.here hx rfl (hb hby at_115) rfl kz) ?_
        show OGo p.tables e below Φ (T134.setTop (mkF m 116 #[.val (.int xk), .val (.int xa), .val (.int xb), .val (.ref b1), .val (.ref b74), .val (.int (2 : Int32)), .val (.int (1 : Int32)), .val (.int (0 : Int32)), .val (.int (2 : Int32)), .unset] [(.int (2 : Int32))]))
        refine OGo.st (fun _ kz => XS.iconst X134.here hx rfl (hb hby at_116) kz) ?_
        show OGo p.tables e below Φ (T134.setTop (mkF m 117 #[.val (.int xk), .val (.int xa), .val (.int xb), .val (.ref b1), .val (.ref b74), .val (.int (2 : Int32)), .val (.int (1 : Int32)), .val (.int (0 : Int32)), .val (.int (2 : Int32)), .unset] [(.int (1 : Int32)), (.int (2 : Int32))]))
        refine OGo.st (fun _ kz => XS.iand X134.here hx rfl (hb hby at_117) rfl kz) ?_
        show OGo p.tables e below Φ (T134.setTop (mkF m 118 #[.val (.int xk), .val (.int xa), .val (.int xb), .val (.ref b1), .val (.ref b74), .val (.int (2 : Int32)), .val (.int (1 : Int32)), .val (.int (0 : Int32)), .val (.int (2 : Int32)), .unset] [(.int (0 : Int32))]))
        refine OGo.st (fun _ kz => XS.ifYes X134.here hx rfl (pc0 := 118) (pc' := 125) rfl (hb hby at_118) rfl (XT.i0_eq_t (by decide)) (by decide) (by decide) kz) ?_
        show OGo p.tables e below Φ (T134.setTop (mkF m 125 #[.val (.int xk), .val (.int xa), .val (.int xb), .val (.ref b1), .val (.ref b74), .val (.int (2 : Int32)), .val (.int (1 : Int32)), .val (.int (0 : Int32)), .val (.int (2 : Int32)), .unset] []))
        refine OGo.st (fun _ kz => XS.iconst X134.here hx rfl (hb hby at_125) kz) ?_
        show OGo p.tables e below Φ (T134.setTop (mkF m 126 #[.val (.int xk), .val (.int xa), .val (.int xb), .val (.ref b1), .val (.ref b74), .val (.int (2 : Int32)), .val (.int (1 : Int32)), .val (.int (0 : Int32)), .val (.int (2 : Int32)), .unset] [(.int (0 : Int32))]))
        refine OGo.st (fun _ kz => XS.istore X134.here hx rfl (hb hby at_126) rfl (l' := #[.val (.int xk), .val (.int xa), .val (.int xb), .val (.ref b1), .val (.ref b74), .val (.int (2 : Int32)), .val (.int (1 : Int32)), .val (.int (0 : Int32)), .val (.int (2 : Int32)), .val (.int (0 : Int32))]) rfl kz) ?_
        show OGo p.tables e below Φ (T134.setTop (mkF m 128 #[.val (.int xk), .val (.int xa), .val (.int xb), .val (.ref b1), .val (.ref b74), .val (.int (2 : Int32)), .val (.int (1 : Int32)), .val (.int (0 : Int32)), .val (.int (2 : Int32)), .val (.int (0 : Int32))] []))
        refine OGo.st (fun _ kz => XS.aloadN X134.here hx rfl (hb hby at_128) rfl rfl kz) ?_
        show OGo p.tables e below Φ (T134.setTop (mkF m 129 #[.val (.int xk), .val (.int xa), .val (.int xb), .val (.ref b1), .val (.ref b74), .val (.int (2 : Int32)), .val (.int (1 : Int32)), .val (.int (0 : Int32)), .val (.int (2 : Int32)), .val (.int (0 : Int32))] [(.ref b1)]))
        refine OGo.st (fun _ kz => XS.iload X134.here hx rfl (hb hby at_129) rfl kz) ?_
        show OGo p.tables e below Φ (T134.setTop (mkF m 131 #[.val (.int xk), .val (.int xa), .val (.int xb), .val (.ref b1), .val (.ref b74), .val (.int (2 : Int32)), .val (.int (1 : Int32)), .val (.int (0 : Int32)), .val (.int (2 : Int32)), .val (.int (0 : Int32))] [(.int (2 : Int32)), (.ref b1)]))
        obtain ⟨cl200, Aq200, -, S200, M200, H200, -⟩ := id F148
        have in200 : ¬ ((2 : Int32) < 0 ∨ cl200.slots.size ≤ (2 : Int32).toNatClampNeg) := inb_of S200 ⟨by decide, by decide⟩
        have at200 : cl200.slots[(2 : Int32).toNatClampNeg]? = some (.ref a2_) := H200.at in200 rfl
        refine OGo.st (fun _ kz => X134.aaload hx (by rw [e134]; exact Aq200.1) (State.isArrayOf_alike hZ.alike Aq200.2.1) rfl Aq200.2.2 in200 at200 (g := (mkF m 131 #[.val (.int xk), .val (.int xa), .val (.int xb), .val (.ref b1), .val (.ref b74), .val (.int (2 : Int32)), .val (.int (1 : Int32)), .val (.int (0 : Int32)), .val (.int (2 : Int32)), .val (.int (0 : Int32))] [(.int (2 : Int32)), (.ref b1)])) rfl rfl (hb hby at_131) _ kz) ?_
        show OGo p.tables e below Φ (T134.setTop (mkF m 132 #[.val (.int xk), .val (.int xa), .val (.int xb), .val (.ref b1), .val (.ref b74), .val (.int (2 : Int32)), .val (.int (1 : Int32)), .val (.int (0 : Int32)), .val (.int (2 : Int32)), .val (.int (0 : Int32))] [(.ref a2_)]))
        refine OGo.st (fun _ kz => XS.iload X134.here hx rfl (hb hby at_132) rfl kz) ?_
        show OGo p.tables e below Φ (T134.setTop (mkF m 134 #[.val (.int xk), .val (.int xa), .val (.int xb), .val (.ref b1), .val (.ref b74), .val (.int (2 : Int32)), .val (.int (1 : Int32)), .val (.int (0 : Int32)), .val (.int (2 : Int32)), .val (.int (0 : Int32))] [(.int (1 : Int32)), (.ref a2_)]))
        refine OGo.st (fun _ kz => XS.iload X134.here hx rfl (hb hby at_134) rfl kz) ?_
        show OGo p.tables e below Φ (T134.setTop (mkF m 136 #[.val (.int xk), .val (.int xa), .val (.int xb), .val (.ref b1), .val (.ref b74), .val (.int (2 : Int32)), .val (.int (1 : Int32)), .val (.int (0 : Int32)), .val (.int (2 : Int32)), .val (.int (0 : Int32))] [(.int (0 : Int32)), (.int (1 : Int32)), (.ref a2_)]))
        obtain ⟨_, T201, L201, X201, hQ201, st201⟩ := own_callVi X134 hx hZ hown (ow13 hw) (ow14 hw) (notFace_of_selects (args := #[]) (mvT hZ (ow16 hw))) (ow16 hw) (ow15 hw) (ow3 hw) (ow17 hw) (by decide) (rm2_2 l Z a0 hw [] a2_ (1 : Int32) (0 : Int32) h134 n0 Zs134 F143 F142) e134 (W := 0) (by decide) (by decide) (by decide) (by decide) F142 (pc := 136) (ls := #[.val (.int xk), .val (.int xa), .val (.int xb), .val (.ref b1), .val (.ref b74), .val (.int (2 : Int32)), .val (.int (1 : Int32)), .val (.int (0 : Int32)), .val (.int (2 : Int32)), .val (.int (0 : Int32))]) (stk := [(.int (0 : Int32)), (.int (1 : Int32)), (.ref a2_)]) (by rw [hml]; rfl) (argsL := [(.int (1 : Int32)), (.int (0 : Int32))]) (rest := []) (lenOf pd1 rfl) rfl rfl (Nat.le_of_eq rfl) (hb hby at_136)
        obtain ⟨rfl, Nq201, e201⟩ := hQ201
        have N201 := Fr.app N134 Nq201
        refine OGo.st st201 ?_
        show OGo p.tables e below Φ (T201.setTop (mkF m 139 #[.val (.int xk), .val (.int xa), .val (.int xb), .val (.ref b1), .val (.ref b74), .val (.int (2 : Int32)), .val (.int (1 : Int32)), .val (.int (0 : Int32)), .val (.int (2 : Int32)), .val (.int (0 : Int32))] [(.int (own_ap2 (1 : Int32) (0 : Int32)))]))
        refine OGo.st (fun _ kz => XS.iload X201.here hx rfl (hb hby at_139) rfl kz) ?_
        show OGo p.tables e below Φ (T201.setTop (mkF m 141 #[.val (.int xk), .val (.int xa), .val (.int xb), .val (.ref b1), .val (.ref b74), .val (.int (2 : Int32)), .val (.int (1 : Int32)), .val (.int (0 : Int32)), .val (.int (2 : Int32)), .val (.int (0 : Int32))] [(.int (0 : Int32)), (.int (own_ap2 (1 : Int32) (0 : Int32)))]))
        by_cases hc202 : (own_ap2 (1 : Int32) (0 : Int32)) = (0 : Int32)
        · refine OGo.st (fun _ kz => XS.icmpNo X201.here hx rfl (hb hby at_141) rfl (XT.ii_ne_f hc202) kz) ?_
          show OGo p.tables e below Φ (T201.setTop (mkF m 144 #[.val (.int xk), .val (.int xa), .val (.int xb), .val (.ref b1), .val (.ref b74), .val (.int (2 : Int32)), .val (.int (1 : Int32)), .val (.int (0 : Int32)), .val (.int (2 : Int32)), .val (.int (0 : Int32))] []))
          refine OGo.st (fun _ kz => XS.iconst X201.here hx rfl (hb hby at_144) kz) ?_
          show OGo p.tables e below Φ (T201.setTop (mkF m 145 #[.val (.int xk), .val (.int xa), .val (.int xb), .val (.ref b1), .val (.ref b74), .val (.int (2 : Int32)), .val (.int (1 : Int32)), .val (.int (0 : Int32)), .val (.int (2 : Int32)), .val (.int (0 : Int32))] [(.int (1 : Int32))]))
          refine OGo.st (fun _ kz => XS.goto X201.here hx rfl (pc0 := 145) (pc' := 149) rfl (hb hby at_145) (by decide) (by decide) kz) ?_
          show OGo p.tables e below Φ (T201.setTop (mkF m 149 #[.val (.int xk), .val (.int xa), .val (.int xb), .val (.ref b1), .val (.ref b74), .val (.int (2 : Int32)), .val (.int (1 : Int32)), .val (.int (0 : Int32)), .val (.int (2 : Int32)), .val (.int (0 : Int32))] [(.int (1 : Int32))]))
          refine OGo.fin X201 hlk (v := (some (.int (1 : Int32)))) (fun h => by rw [hret] at h; cases h) (by decide) (by decide) (fun fs hr => X201.ireturnOut hx hret rfl (by simp) (hb hby at_149) hr) fun U eU hF => hΦ _ _ _ ?_ hF
          rw [eU, e201]
          show Q_rm0 Z xk xa xb a0_ a1_ a2_ a3_ h0 n0 _ _ _
          exact ⟨rfl, N201⟩
        · refine OGo.st (fun _ kz => XS.icmpYes X201.here hx rfl (pc0 := 141) (pc' := 148) rfl (hb hby at_141) rfl (XT.ii_ne_t hc202) (by decide) (by decide) kz) ?_
          show OGo p.tables e below Φ (T201.setTop (mkF m 148 #[.val (.int xk), .val (.int xa), .val (.int xb), .val (.ref b1), .val (.ref b74), .val (.int (2 : Int32)), .val (.int (1 : Int32)), .val (.int (0 : Int32)), .val (.int (2 : Int32)), .val (.int (0 : Int32))] []))
          refine OGo.st (fun _ kz => XS.iconst X201.here hx rfl (hb hby at_148) kz) ?_
          show OGo p.tables e below Φ (T201.setTop (mkF m 149 #[.val (.int xk), .val (.int xa), .val (.int xb), .val (.ref b1), .val (.ref b74), .val (.int (2 : Int32)), .val (.int (1 : Int32)), .val (.int (0 : Int32)), .val (.int (2 : Int32)), .val (.int (0 : Int32))] [(.int (0 : Int32))]))
          exact absurd (by decide) hc202
      · refine OGo.st (fun _ kz => XS.ifNo X134.here hx rfl (hb hby at_75) rfl (XT.i0_eq_f hc198) kz) ?_
        show OGo p.tables e below Φ (T134.setTop (mkF m 78 #[.val (.int xk), .val (.int xa), .val (.int xb), .val (.ref b1), .val (.ref b74), .val (.int (2 : Int32)), .val (.int (1 : Int32)), .unset, .unset, .unset] []))
        refine OGo.st (fun _ kz => XS.iconst X134.here hx rfl (hb hby at_78) kz) ?_
        show OGo p.tables e below Φ (T134.setTop (mkF m 79 #[.val (.int xk), .val (.int xa), .val (.int xb), .val (.ref b1), .val (.ref b74), .val (.int (2 : Int32)), .val (.int (1 : Int32)), .unset, .unset, .unset] [(.int (1 : Int32))]))
        refine OGo.st (fun _ kz => XS.goto X134.here hx rfl (pc0 := 79) (pc' := 83) rfl (hb hby at_79) (by decide) (by decide) kz) ?_
        show OGo p.tables e below Φ (T134.setTop (mkF m 83 #[.val (.int xk), .val (.int xa), .val (.int xb), .val (.ref b1), .val (.ref b74), .val (.int (2 : Int32)), .val (.int (1 : Int32)), .unset, .unset, .unset] [(.int (1 : Int32))]))
        refine OGo.st (fun _ kz => XS.istore X134.here hx rfl (hb hby at_83) rfl (l' := #[.val (.int xk), .val (.int xa), .val (.int xb), .val (.ref b1), .val (.ref b74), .val (.int (2 : Int32)), .val (.int (1 : Int32)), .val (.int (1 : Int32)), .unset, .unset]) rfl kz) ?_
        show OGo p.tables e below Φ (T134.setTop (mkF m 85 #[.val (.int xk), .val (.int xa), .val (.int xb), .val (.ref b1), .val (.ref b74), .val (.int (2 : Int32)), .val (.int (1 : Int32)), .val (.int (1 : Int32)), .unset, .unset] []))
        refine OGo.st (fun _ kz => XS.iload X134.here hx rfl (hb hby at_85) rfl kz) ?_
        show OGo p.tables e below Φ (T134.setTop (mkF m 87 #[.val (.int xk), .val (.int xa), .val (.int xb), .val (.ref b1), .val (.ref b74), .val (.int (2 : Int32)), .val (.int (1 : Int32)), .val (.int (1 : Int32)), .unset, .unset] [(.int (1 : Int32))]))
        refine OGo.st (fun _ kz => XS.ifNo X134.here hx rfl (hb hby at_87) rfl (XT.i0_eq_f (by decide)) kz) ?_
        show OGo p.tables e below Φ (T134.setTop (mkF m 90 #[.val (.int xk), .val (.int xa), .val (.int xb), .val (.ref b1), .val (.ref b74), .val (.int (2 : Int32)), .val (.int (1 : Int32)), .val (.int (1 : Int32)), .unset, .unset] []))
        refine OGo.st (fun _ kz => XS.iconst X134.here hx rfl (hb hby at_90) kz) ?_
        show OGo p.tables e below Φ (T134.setTop (mkF m 91 #[.val (.int xk), .val (.int xa), .val (.int xb), .val (.ref b1), .val (.ref b74), .val (.int (2 : Int32)), .val (.int (1 : Int32)), .val (.int (1 : Int32)), .unset, .unset] [(.int (2 : Int32))]))
        refine OGo.st (fun _ kz => XS.goto X134.here hx rfl (pc0 := 91) (pc' := 95) rfl (hb hby at_91) (by decide) (by decide) kz) ?_
        show OGo p.tables e below Φ (T134.setTop (mkF m 95 #[.val (.int xk), .val (.int xa), .val (.int xb), .val (.ref b1), .val (.ref b74), .val (.int (2 : Int32)), .val (.int (1 : Int32)), .val (.int (1 : Int32)), .unset, .unset] [(.int (2 : Int32))]))
        refine OGo.st (fun _ kz => XS.iload X134.here hx rfl (hb hby at_95) rfl kz) ?_
        show OGo p.tables e below Φ (T134.setTop (mkF m 97 #[.val (.int xk), .val (.int xa), .val (.int xb), .val (.ref b1), .val (.ref b74), .val (.int (2 : Int32)), .val (.int (1 : Int32)), .val (.int (1 : Int32)), .unset, .unset] [(.int (1 : Int32)), (.int (2 : Int32))]))
        refine OGo.st (fun _ kz => XS.ifNo X134.here hx rfl (hb hby at_97) rfl (XT.i0_eq_f (by decide)) kz) ?_
        show OGo p.tables e below Φ (T134.setTop (mkF m 100 #[.val (.int xk), .val (.int xa), .val (.int xb), .val (.ref b1), .val (.ref b74), .val (.int (2 : Int32)), .val (.int (1 : Int32)), .val (.int (1 : Int32)), .unset, .unset] [(.int (2 : Int32))]))
        refine OGo.st (fun _ kz => XS.iconst X134.here hx rfl (hb hby at_100) kz) ?_
        show OGo p.tables e below Φ (T134.setTop (mkF m 101 #[.val (.int xk), .val (.int xa), .val (.int xb), .val (.ref b1), .val (.ref b74), .val (.int (2 : Int32)), .val (.int (1 : Int32)), .val (.int (1 : Int32)), .unset, .unset] [(.int (1 : Int32)), (.int (2 : Int32))]))
        refine OGo.st (fun _ kz => XS.goto X134.here hx rfl (pc0 := 101) (pc' := 105) rfl (hb hby at_101) (by decide) (by decide) kz) ?_
        show OGo p.tables e below Φ (T134.setTop (mkF m 105 #[.val (.int xk), .val (.int xa), .val (.int xb), .val (.ref b1), .val (.ref b74), .val (.int (2 : Int32)), .val (.int (1 : Int32)), .val (.int (1 : Int32)), .unset, .unset] [(.int (1 : Int32)), (.int (2 : Int32))]))
        refine OGo.st (fun _ kz => XS.iadd X134.here hx rfl (hb hby at_105) rfl kz) ?_
        show OGo p.tables e below Φ (T134.setTop (mkF m 106 #[.val (.int xk), .val (.int xa), .val (.int xb), .val (.ref b1), .val (.ref b74), .val (.int (2 : Int32)), .val (.int (1 : Int32)), .val (.int (1 : Int32)), .unset, .unset] [(.int (3 : Int32))]))
        refine OGo.st (fun _ kz => XS.istore X134.here hx rfl (hb hby at_106) rfl (l' := #[.val (.int xk), .val (.int xa), .val (.int xb), .val (.ref b1), .val (.ref b74), .val (.int (2 : Int32)), .val (.int (1 : Int32)), .val (.int (1 : Int32)), .val (.int (3 : Int32)), .unset]) rfl kz) ?_
        show OGo p.tables e below Φ (T134.setTop (mkF m 108 #[.val (.int xk), .val (.int xa), .val (.int xb), .val (.ref b1), .val (.ref b74), .val (.int (2 : Int32)), .val (.int (1 : Int32)), .val (.int (1 : Int32)), .val (.int (3 : Int32)), .unset] []))
        refine OGo.st (fun _ kz => XS.aload X134.here hx rfl (hb hby at_108) rfl rfl kz) ?_
        show OGo p.tables e below Φ (T134.setTop (mkF m 110 #[.val (.int xk), .val (.int xa), .val (.int xb), .val (.ref b1), .val (.ref b74), .val (.int (2 : Int32)), .val (.int (1 : Int32)), .val (.int (1 : Int32)), .val (.int (3 : Int32)), .unset] [(.ref b74)]))
        refine OGo.st (fun _ kz => XS.iload X134.here hx rfl (hb hby at_110) rfl kz) ?_
        show OGo p.tables e below Φ (T134.setTop (mkF m 112 #[.val (.int xk), .val (.int xa), .val (.int xb), .val (.ref b1), .val (.ref b74), .val (.int (2 : Int32)), .val (.int (1 : Int32)), .val (.int (1 : Int32)), .val (.int (3 : Int32)), .unset] [(.int (2 : Int32)), (.ref b74)]))
        obtain ⟨cl203, Aq203, -, S203, M203, H203, -⟩ := id V134
        have in203 : ¬ ((2 : Int32) < 0 ∨ cl203.slots.size ≤ (2 : Int32).toNatClampNeg) := inb_of S203 ⟨by decide, by decide⟩
        have at203 : cl203.slots[(2 : Int32).toNatClampNeg]? = some (.int (11 : Int32)) := H203.at in203 rfl
        refine OGo.st (fun _ kz => X134.iaload hx (by rw [e134]; exact Aq203.1) (State.isArrayOf_alike hZ.alike Aq203.2.1) Aq203.2.2 in203 at203 (g := (mkF m 112 #[.val (.int xk), .val (.int xa), .val (.int xb), .val (.ref b1), .val (.ref b74), .val (.int (2 : Int32)), .val (.int (1 : Int32)), .val (.int (1 : Int32)), .val (.int (3 : Int32)), .unset] [(.int (2 : Int32)), (.ref b74)])) rfl rfl (hb hby at_112) _ kz) ?_
        show OGo p.tables e below Φ (T134.setTop (mkF m 113 #[.val (.int xk), .val (.int xa), .val (.int xb), .val (.ref b1), .val (.ref b74), .val (.int (2 : Int32)), .val (.int (1 : Int32)), .val (.int (1 : Int32)), .val (.int (3 : Int32)), .unset] [(.int (11 : Int32))]))
        refine OGo.st (fun _ kz => XS.iload X134.here hx rfl (hb hby at_113) rfl kz) ?_
        show OGo p.tables e below Φ (T134.setTop (mkF m 115 #[.val (.int xk), .val (.int xa), .val (.int xb), .val (.ref b1), .val (.ref b74), .val (.int (2 : Int32)), .val (.int (1 : Int32)), .val (.int (1 : Int32)), .val (.int (3 : Int32)), .unset] [(.int (3 : Int32)), (.int (11 : Int32))]))
        refine OGo.st (fun _ kz => XT.ishr X134.here hx rfl (hb hby at_115) rfl kz) ?_
        show OGo p.tables e below Φ (T134.setTop (mkF m 116 #[.val (.int xk), .val (.int xa), .val (.int xb), .val (.ref b1), .val (.ref b74), .val (.int (2 : Int32)), .val (.int (1 : Int32)), .val (.int (1 : Int32)), .val (.int (3 : Int32)), .unset] [(.int (1 : Int32))]))
        refine OGo.st (fun _ kz => XS.iconst X134.here hx rfl (hb hby at_116) kz) ?_
        show OGo p.tables e below Φ (T134.setTop (mkF m 117 #[.val (.int xk), .val (.int xa), .val (.int xb), .val (.ref b1), .val (.ref b74), .val (.int (2 : Int32)), .val (.int (1 : Int32)), .val (.int (1 : Int32)), .val (.int (3 : Int32)), .unset] [(.int (1 : Int32)), (.int (1 : Int32))]))
        refine OGo.st (fun _ kz => XS.iand X134.here hx rfl (hb hby at_117) rfl kz) ?_
        show OGo p.tables e below Φ (T134.setTop (mkF m 118 #[.val (.int xk), .val (.int xa), .val (.int xb), .val (.ref b1), .val (.ref b74), .val (.int (2 : Int32)), .val (.int (1 : Int32)), .val (.int (1 : Int32)), .val (.int (3 : Int32)), .unset] [(.int (1 : Int32))]))
        refine OGo.st (fun _ kz => XS.ifNo X134.here hx rfl (hb hby at_118) rfl (XT.i0_eq_f (by decide)) kz) ?_
        show OGo p.tables e below Φ (T134.setTop (mkF m 121 #[.val (.int xk), .val (.int xa), .val (.int xb), .val (.ref b1), .val (.ref b74), .val (.int (2 : Int32)), .val (.int (1 : Int32)), .val (.int (1 : Int32)), .val (.int (3 : Int32)), .unset] []))
        refine OGo.st (fun _ kz => XS.iconst X134.here hx rfl (hb hby at_121) kz) ?_
        show OGo p.tables e below Φ (T134.setTop (mkF m 122 #[.val (.int xk), .val (.int xa), .val (.int xb), .val (.ref b1), .val (.ref b74), .val (.int (2 : Int32)), .val (.int (1 : Int32)), .val (.int (1 : Int32)), .val (.int (3 : Int32)), .unset] [(.int (1 : Int32))]))
        refine OGo.st (fun _ kz => XS.goto X134.here hx rfl (pc0 := 122) (pc' := 126) rfl (hb hby at_122) (by decide) (by decide) kz) ?_
        show OGo p.tables e below Φ (T134.setTop (mkF m 126 #[.val (.int xk), .val (.int xa), .val (.int xb), .val (.ref b1), .val (.ref b74), .val (.int (2 : Int32)), .val (.int (1 : Int32)), .val (.int (1 : Int32)), .val (.int (3 : Int32)), .unset] [(.int (1 : Int32))]))
        refine OGo.st (fun _ kz => XS.istore X134.here hx rfl (hb hby at_126) rfl (l' := #[.val (.int xk), .val (.int xa), .val (.int xb), .val (.ref b1), .val (.ref b74), .val (.int (2 : Int32)), .val (.int (1 : Int32)), .val (.int (1 : Int32)), .val (.int (3 : Int32)), .val (.int (1 : Int32))]) rfl kz) ?_
        show OGo p.tables e below Φ (T134.setTop (mkF m 128 #[.val (.int xk), .val (.int xa), .val (.int xb), .val (.ref b1), .val (.ref b74), .val (.int (2 : Int32)), .val (.int (1 : Int32)), .val (.int (1 : Int32)), .val (.int (3 : Int32)), .val (.int (1 : Int32))] []))
        refine OGo.st (fun _ kz => XS.aloadN X134.here hx rfl (hb hby at_128) rfl rfl kz) ?_
        show OGo p.tables e below Φ (T134.setTop (mkF m 129 #[.val (.int xk), .val (.int xa), .val (.int xb), .val (.ref b1), .val (.ref b74), .val (.int (2 : Int32)), .val (.int (1 : Int32)), .val (.int (1 : Int32)), .val (.int (3 : Int32)), .val (.int (1 : Int32))] [(.ref b1)]))
        refine OGo.st (fun _ kz => XS.iload X134.here hx rfl (hb hby at_129) rfl kz) ?_
        show OGo p.tables e below Φ (T134.setTop (mkF m 131 #[.val (.int xk), .val (.int xa), .val (.int xb), .val (.ref b1), .val (.ref b74), .val (.int (2 : Int32)), .val (.int (1 : Int32)), .val (.int (1 : Int32)), .val (.int (3 : Int32)), .val (.int (1 : Int32))] [(.int (2 : Int32)), (.ref b1)]))
        obtain ⟨cl204, Aq204, -, S204, M204, H204, -⟩ := id F148
        have in204 : ¬ ((2 : Int32) < 0 ∨ cl204.slots.size ≤ (2 : Int32).toNatClampNeg) := inb_of S204 ⟨by decide, by decide⟩
        have at204 : cl204.slots[(2 : Int32).toNatClampNeg]? = some (.ref a2_) := H204.at in204 rfl
        refine OGo.st (fun _ kz => X134.aaload hx (by rw [e134]; exact Aq204.1) (State.isArrayOf_alike hZ.alike Aq204.2.1) rfl Aq204.2.2 in204 at204 (g := (mkF m 131 #[.val (.int xk), .val (.int xa), .val (.int xb), .val (.ref b1), .val (.ref b74), .val (.int (2 : Int32)), .val (.int (1 : Int32)), .val (.int (1 : Int32)), .val (.int (3 : Int32)), .val (.int (1 : Int32))] [(.int (2 : Int32)), (.ref b1)])) rfl rfl (hb hby at_131) _ kz) ?_
        show OGo p.tables e below Φ (T134.setTop (mkF m 132 #[.val (.int xk), .val (.int xa), .val (.int xb), .val (.ref b1), .val (.ref b74), .val (.int (2 : Int32)), .val (.int (1 : Int32)), .val (.int (1 : Int32)), .val (.int (3 : Int32)), .val (.int (1 : Int32))] [(.ref a2_)]))
        refine OGo.st (fun _ kz => XS.iload X134.here hx rfl (hb hby at_132) rfl kz) ?_
        show OGo p.tables e below Φ (T134.setTop (mkF m 134 #[.val (.int xk), .val (.int xa), .val (.int xb), .val (.ref b1), .val (.ref b74), .val (.int (2 : Int32)), .val (.int (1 : Int32)), .val (.int (1 : Int32)), .val (.int (3 : Int32)), .val (.int (1 : Int32))] [(.int (1 : Int32)), (.ref a2_)]))
        refine OGo.st (fun _ kz => XS.iload X134.here hx rfl (hb hby at_134) rfl kz) ?_
        show OGo p.tables e below Φ (T134.setTop (mkF m 136 #[.val (.int xk), .val (.int xa), .val (.int xb), .val (.ref b1), .val (.ref b74), .val (.int (2 : Int32)), .val (.int (1 : Int32)), .val (.int (1 : Int32)), .val (.int (3 : Int32)), .val (.int (1 : Int32))] [(.int (1 : Int32)), (.int (1 : Int32)), (.ref a2_)]))
        obtain ⟨_, T205, L205, X205, hQ205, st205⟩ := own_callVi X134 hx hZ hown (ow13 hw) (ow14 hw) (notFace_of_selects (args := #[]) (mvT hZ (ow16 hw))) (ow16 hw) (ow15 hw) (ow3 hw) (ow17 hw) (by decide) (rm2_2 l Z a0 hw [] a2_ (1 : Int32) (1 : Int32) h134 n0 Zs134 F143 F142) e134 (W := 0) (by decide) (by decide) (by decide) (by decide) F142 (pc := 136) (ls := #[.val (.int xk), .val (.int xa), .val (.int xb), .val (.ref b1), .val (.ref b74), .val (.int (2 : Int32)), .val (.int (1 : Int32)), .val (.int (1 : Int32)), .val (.int (3 : Int32)), .val (.int (1 : Int32))]) (stk := [(.int (1 : Int32)), (.int (1 : Int32)), (.ref a2_)]) (by rw [hml]; rfl) (argsL := [(.int (1 : Int32)), (.int (1 : Int32))]) (rest := []) (lenOf pd1 rfl) rfl rfl (Nat.le_of_eq rfl) (hb hby at_136)
        obtain ⟨rfl, Nq205, e205⟩ := hQ205
        have N205 := Fr.app N134 Nq205
        refine OGo.st st205 ?_
        show OGo p.tables e below Φ (T205.setTop (mkF m 139 #[.val (.int xk), .val (.int xa), .val (.int xb), .val (.ref b1), .val (.ref b74), .val (.int (2 : Int32)), .val (.int (1 : Int32)), .val (.int (1 : Int32)), .val (.int (3 : Int32)), .val (.int (1 : Int32))] [(.int (own_ap2 (1 : Int32) (1 : Int32)))]))
        refine OGo.st (fun _ kz => XS.iload X205.here hx rfl (hb hby at_139) rfl kz) ?_
        show OGo p.tables e below Φ (T205.setTop (mkF m 141 #[.val (.int xk), .val (.int xa), .val (.int xb), .val (.ref b1), .val (.ref b74), .val (.int (2 : Int32)), .val (.int (1 : Int32)), .val (.int (1 : Int32)), .val (.int (3 : Int32)), .val (.int (1 : Int32))] [(.int (1 : Int32)), (.int (own_ap2 (1 : Int32) (1 : Int32)))]))
        by_cases hc206 : (own_ap2 (1 : Int32) (1 : Int32)) = (1 : Int32)
        · refine OGo.st (fun _ kz => XS.icmpNo X205.here hx rfl (hb hby at_141) rfl (XT.ii_ne_f hc206) kz) ?_
          show OGo p.tables e below Φ (T205.setTop (mkF m 144 #[.val (.int xk), .val (.int xa), .val (.int xb), .val (.ref b1), .val (.ref b74), .val (.int (2 : Int32)), .val (.int (1 : Int32)), .val (.int (1 : Int32)), .val (.int (3 : Int32)), .val (.int (1 : Int32))] []))
          refine OGo.st (fun _ kz => XS.iconst X205.here hx rfl (hb hby at_144) kz) ?_
          show OGo p.tables e below Φ (T205.setTop (mkF m 145 #[.val (.int xk), .val (.int xa), .val (.int xb), .val (.ref b1), .val (.ref b74), .val (.int (2 : Int32)), .val (.int (1 : Int32)), .val (.int (1 : Int32)), .val (.int (3 : Int32)), .val (.int (1 : Int32))] [(.int (1 : Int32))]))
          refine OGo.st (fun _ kz => XS.goto X205.here hx rfl (pc0 := 145) (pc' := 149) rfl (hb hby at_145) (by decide) (by decide) kz) ?_
          show OGo p.tables e below Φ (T205.setTop (mkF m 149 #[.val (.int xk), .val (.int xa), .val (.int xb), .val (.ref b1), .val (.ref b74), .val (.int (2 : Int32)), .val (.int (1 : Int32)), .val (.int (1 : Int32)), .val (.int (3 : Int32)), .val (.int (1 : Int32))] [(.int (1 : Int32))]))
          refine OGo.fin X205 hlk (v := (some (.int (1 : Int32)))) (fun h => by rw [hret] at h; cases h) (by decide) (by decide) (fun fs hr => X205.ireturnOut hx hret rfl (by simp) (hb hby at_149) hr) fun U eU hF => hΦ _ _ _ ?_ hF
          rw [eU, e205]
          show Q_rm0 Z xk xa xb a0_ a1_ a2_ a3_ h0 n0 _ _ _
          exact ⟨rfl, N205⟩
        · refine OGo.st (fun _ kz => XS.icmpYes X205.here hx rfl (pc0 := 141) (pc' := 148) rfl (hb hby at_141) rfl (XT.ii_ne_t hc206) (by decide) (by decide) kz) ?_
          show OGo p.tables e below Φ (T205.setTop (mkF m 148 #[.val (.int xk), .val (.int xa), .val (.int xb), .val (.ref b1), .val (.ref b74), .val (.int (2 : Int32)), .val (.int (1 : Int32)), .val (.int (1 : Int32)), .val (.int (3 : Int32)), .val (.int (1 : Int32))] []))
          refine OGo.st (fun _ kz => XS.iconst X205.here hx rfl (hb hby at_148) kz) ?_
          show OGo p.tables e below Φ (T205.setTop (mkF m 149 #[.val (.int xk), .val (.int xa), .val (.int xb), .val (.ref b1), .val (.ref b74), .val (.int (2 : Int32)), .val (.int (1 : Int32)), .val (.int (1 : Int32)), .val (.int (3 : Int32)), .val (.int (1 : Int32))] [(.int (0 : Int32))]))
          exact absurd (by decide) hc206
  · rw [hk149]
    show OGo p.tables e below Φ (T134.setTop (mkF m 59 #[.val (.int xk), .val (.int xa), .val (.int xb), .val (.ref b1), .val (.ref b74), .val (.int (3 : Int32)), .unset, .unset, .unset, .unset] []))
    refine OGo.st (fun _ kz => XS.iloadN X134.here hx rfl (hb hby at_59) rfl kz) ?_
    show OGo p.tables e below Φ (T134.setTop (mkF m 60 #[.val (.int xk), .val (.int xa), .val (.int xb), .val (.ref b1), .val (.ref b74), .val (.int (3 : Int32)), .unset, .unset, .unset, .unset] [(.int xa)]))
    refine OGo.st (fun _ kz => XS.iconst X134.here hx rfl (hb hby at_60) kz) ?_
    show OGo p.tables e below Φ (T134.setTop (mkF m 61 #[.val (.int xk), .val (.int xa), .val (.int xb), .val (.ref b1), .val (.ref b74), .val (.int (3 : Int32)), .unset, .unset, .unset, .unset] [(.int (1 : Int32)), (.int xa)]))
    refine OGo.st (fun _ kz => XS.iand X134.here hx rfl (hb hby at_61) rfl kz) ?_
    show OGo p.tables e below Φ (T134.setTop (mkF m 62 #[.val (.int xk), .val (.int xa), .val (.int xb), .val (.ref b1), .val (.ref b74), .val (.int (3 : Int32)), .unset, .unset, .unset, .unset] [(.int (xa &&& (1 : Int32)))]))
    by_cases hc207 : (xa &&& (1 : Int32)) = 0
    · refine OGo.st (fun _ kz => XS.ifYes X134.here hx rfl (pc0 := 62) (pc' := 69) rfl (hb hby at_62) rfl (XT.i0_eq_t hc207) (by decide) (by decide) kz) ?_
      show OGo p.tables e below Φ (T134.setTop (mkF m 69 #[.val (.int xk), .val (.int xa), .val (.int xb), .val (.ref b1), .val (.ref b74), .val (.int (3 : Int32)), .unset, .unset, .unset, .unset] []))
      refine OGo.st (fun _ kz => XS.iconst X134.here hx rfl (hb hby at_69) kz) ?_
      show OGo p.tables e below Φ (T134.setTop (mkF m 70 #[.val (.int xk), .val (.int xa), .val (.int xb), .val (.ref b1), .val (.ref b74), .val (.int (3 : Int32)), .unset, .unset, .unset, .unset] [(.int (0 : Int32))]))
      refine OGo.st (fun _ kz => XS.istore X134.here hx rfl (hb hby at_70) rfl (l' := #[.val (.int xk), .val (.int xa), .val (.int xb), .val (.ref b1), .val (.ref b74), .val (.int (3 : Int32)), .val (.int (0 : Int32)), .unset, .unset, .unset]) rfl kz) ?_
      show OGo p.tables e below Φ (T134.setTop (mkF m 72 #[.val (.int xk), .val (.int xa), .val (.int xb), .val (.ref b1), .val (.ref b74), .val (.int (3 : Int32)), .val (.int (0 : Int32)), .unset, .unset, .unset] []))
      refine OGo.st (fun _ kz => XS.iloadN X134.here hx rfl (hb hby at_72) rfl kz) ?_
      show OGo p.tables e below Φ (T134.setTop (mkF m 73 #[.val (.int xk), .val (.int xa), .val (.int xb), .val (.ref b1), .val (.ref b74), .val (.int (3 : Int32)), .val (.int (0 : Int32)), .unset, .unset, .unset] [(.int xb)]))
      refine OGo.st (fun _ kz => XS.iconst X134.here hx rfl (hb hby at_73) kz) ?_
      show OGo p.tables e below Φ (T134.setTop (mkF m 74 #[.val (.int xk), .val (.int xa), .val (.int xb), .val (.ref b1), .val (.ref b74), .val (.int (3 : Int32)), .val (.int (0 : Int32)), .unset, .unset, .unset] [(.int (1 : Int32)), (.int xb)]))
      refine OGo.st (fun _ kz => XS.iand X134.here hx rfl (hb hby at_74) rfl kz) ?_
      show OGo p.tables e below Φ (T134.setTop (mkF m 75 #[.val (.int xk), .val (.int xa), .val (.int xb), .val (.ref b1), .val (.ref b74), .val (.int (3 : Int32)), .val (.int (0 : Int32)), .unset, .unset, .unset] [(.int (xb &&& (1 : Int32)))]))
      by_cases hc208 : (xb &&& (1 : Int32)) = 0
      · refine OGo.st (fun _ kz => XS.ifYes X134.here hx rfl (pc0 := 75) (pc' := 82) rfl (hb hby at_75) rfl (XT.i0_eq_t hc208) (by decide) (by decide) kz) ?_
        show OGo p.tables e below Φ (T134.setTop (mkF m 82 #[.val (.int xk), .val (.int xa), .val (.int xb), .val (.ref b1), .val (.ref b74), .val (.int (3 : Int32)), .val (.int (0 : Int32)), .unset, .unset, .unset] []))
        refine OGo.st (fun _ kz => XS.iconst X134.here hx rfl (hb hby at_82) kz) ?_
        show OGo p.tables e below Φ (T134.setTop (mkF m 83 #[.val (.int xk), .val (.int xa), .val (.int xb), .val (.ref b1), .val (.ref b74), .val (.int (3 : Int32)), .val (.int (0 : Int32)), .unset, .unset, .unset] [(.int (0 : Int32))]))
        refine OGo.st (fun _ kz => XS.istore X134.here hx rfl (hb hby at_83) rfl (l' := #[.val (.int xk), .val (.int xa), .val (.int xb), .val (.ref b1), .val (.ref b74), .val (.int (3 : Int32)), .val (.int (0 : Int32)), .val (.int (0 : Int32)), .unset, .unset]) rfl kz) ?_
        show OGo p.tables e below Φ (T134.setTop (mkF m 85 #[.val (.int xk), .val (.int xa), .val (.int xb), .val (.ref b1), .val (.ref b74), .val (.int (3 : Int32)), .val (.int (0 : Int32)), .val (.int (0 : Int32)), .unset, .unset] []))
        refine OGo.st (fun _ kz => XS.iload X134.here hx rfl (hb hby at_85) rfl kz) ?_
        show OGo p.tables e below Φ (T134.setTop (mkF m 87 #[.val (.int xk), .val (.int xa), .val (.int xb), .val (.ref b1), .val (.ref b74), .val (.int (3 : Int32)), .val (.int (0 : Int32)), .val (.int (0 : Int32)), .unset, .unset] [(.int (0 : Int32))]))
        refine OGo.st (fun _ kz => XS.ifYes X134.here hx rfl (pc0 := 87) (pc' := 94) rfl (hb hby at_87) rfl (XT.i0_eq_t (by decide)) (by decide) (by decide) kz) ?_
        show OGo p.tables e below Φ (T134.setTop (mkF m 94 #[.val (.int xk), .val (.int xa), .val (.int xb), .val (.ref b1), .val (.ref b74), .val (.int (3 : Int32)), .val (.int (0 : Int32)), .val (.int (0 : Int32)), .unset, .unset] []))
        refine OGo.st (fun _ kz => XS.iconst X134.here hx rfl (hb hby at_94) kz) ?_
        show OGo p.tables e below Φ (T134.setTop (mkF m 95 #[.val (.int xk), .val (.int xa), .val (.int xb), .val (.ref b1), .val (.ref b74), .val (.int (3 : Int32)), .val (.int (0 : Int32)), .val (.int (0 : Int32)), .unset, .unset] [(.int (0 : Int32))]))
        refine OGo.st (fun _ kz => XS.iload X134.here hx rfl (hb hby at_95) rfl kz) ?_
        show OGo p.tables e below Φ (T134.setTop (mkF m 97 #[.val (.int xk), .val (.int xa), .val (.int xb), .val (.ref b1), .val (.ref b74), .val (.int (3 : Int32)), .val (.int (0 : Int32)), .val (.int (0 : Int32)), .unset, .unset] [(.int (0 : Int32)), (.int (0 : Int32))]))
        refine OGo.st (fun _ kz => XS.ifYes X134.here hx rfl (pc0 := 97) (pc' := 104) rfl (hb hby at_97) rfl (XT.i0_eq_t (by decide)) (by decide) (by decide) kz) ?_
        show OGo p.tables e below Φ (T134.setTop (mkF m 104 #[.val (.int xk), .val (.int xa), .val (.int xb), .val (.ref b1), .val (.ref b74), .val (.int (3 : Int32)), .val (.int (0 : Int32)), .val (.int (0 : Int32)), .unset, .unset] [(.int (0 : Int32))]))
        refine OGo.st (fun _ kz => XS.iconst X134.here hx rfl (hb hby at_104) kz) ?_
        show OGo p.tables e below Φ (T134.setTop (mkF m 105 #[.val (.int xk), .val (.int xa), .val (.int xb), .val (.ref b1), .val (.ref b74), .val (.int (3 : Int32)), .val (.int (0 : Int32)), .val (.int (0 : Int32)), .unset, .unset] [(.int (0 : Int32)), (.int (0 : Int32))]))
        refine OGo.st (fun _ kz => XS.iadd X134.here hx rfl (hb hby at_105) rfl kz) ?_
        show OGo p.tables e below Φ (T134.setTop (mkF m 106 #[.val (.int xk), .val (.int xa), .val (.int xb), .val (.ref b1), .val (.ref b74), .val (.int (3 : Int32)), .val (.int (0 : Int32)), .val (.int (0 : Int32)), .unset, .unset] [(.int (0 : Int32))]))
        refine OGo.st (fun _ kz => XS.istore X134.here hx rfl (hb hby at_106) rfl (l' := #[.val (.int xk), .val (.int xa), .val (.int xb), .val (.ref b1), .val (.ref b74), .val (.int (3 : Int32)), .val (.int (0 : Int32)), .val (.int (0 : Int32)), .val (.int (0 : Int32)), .unset]) rfl kz) ?_
        show OGo p.tables e below Φ (T134.setTop (mkF m 108 #[.val (.int xk), .val (.int xa), .val (.int xb), .val (.ref b1), .val (.ref b74), .val (.int (3 : Int32)), .val (.int (0 : Int32)), .val (.int (0 : Int32)), .val (.int (0 : Int32)), .unset] []))
        refine OGo.st (fun _ kz => XS.aload X134.here hx rfl (hb hby at_108) rfl rfl kz) ?_
        show OGo p.tables e below Φ (T134.setTop (mkF m 110 #[.val (.int xk), .val (.int xa), .val (.int xb), .val (.ref b1), .val (.ref b74), .val (.int (3 : Int32)), .val (.int (0 : Int32)), .val (.int (0 : Int32)), .val (.int (0 : Int32)), .unset] [(.ref b74)]))
        refine OGo.st (fun _ kz => XS.iload X134.here hx rfl (hb hby at_110) rfl kz) ?_
        show OGo p.tables e below Φ (T134.setTop (mkF m 112 #[.val (.int xk), .val (.int xa), .val (.int xb), .val (.ref b1), .val (.ref b74), .val (.int (3 : Int32)), .val (.int (0 : Int32)), .val (.int (0 : Int32)), .val (.int (0 : Int32)), .unset] [(.int (3 : Int32)), (.ref b74)]))
        obtain ⟨cl209, Aq209, -, S209, M209, H209, -⟩ := id V134
        have in209 : ¬ ((3 : Int32) < 0 ∨ cl209.slots.size ≤ (3 : Int32).toNatClampNeg) := inb_of S209 ⟨by decide, by decide⟩
        have at209 : cl209.slots[(3 : Int32).toNatClampNeg]? = some (.int (9 : Int32)) := H209.at in209 rfl
        refine OGo.st (fun _ kz => X134.iaload hx (by rw [e134]; exact Aq209.1) (State.isArrayOf_alike hZ.alike Aq209.2.1) Aq209.2.2 in209 at209 (g := (mkF m 112 #[.val (.int xk), .val (.int xa), .val (.int xb), .val (.ref b1), .val (.ref b74), .val (.int (3 : Int32)), .val (.int (0 : Int32)), .val (.int (0 : Int32)), .val (.int (0 : Int32)), .unset] [(.int (3 : Int32)), (.ref b74)])) rfl rfl (hb hby at_112) _ kz) ?_
        show OGo p.tables e below Φ (T134.setTop (mkF m 113 #[.val (.int xk), .val (.int xa), .val (.int xb), .val (.ref b1), .val (.ref b74), .val (.int (3 : Int32)), .val (.int (0 : Int32)), .val (.int (0 : Int32)), .val (.int (0 : Int32)), .unset] [(.int (9 : Int32))]))
        refine OGo.st (fun _ kz => XS.iload X134.here hx rfl (hb hby at_113) rfl kz) ?_
        show OGo p.tables e below Φ (T134.setTop (mkF m 115 #[.val (.int xk), .val (.int xa), .val (.int xb), .val (.ref b1), .val (.ref b74), .val (.int (3 : Int32)), .val (.int (0 : Int32)), .val (.int (0 : Int32)), .val (.int (0 : Int32)), .unset] [(.int (0 : Int32)), (.int (9 : Int32))]))
        refine OGo.st (fun _ kz => XT.ishr X134.here hx rfl (hb hby at_115) rfl kz) ?_
        show OGo p.tables e below Φ (T134.setTop (mkF m 116 #[.val (.int xk), .val (.int xa), .val (.int xb), .val (.ref b1), .val (.ref b74), .val (.int (3 : Int32)), .val (.int (0 : Int32)), .val (.int (0 : Int32)), .val (.int (0 : Int32)), .unset] [(.int (9 : Int32))]))
        refine OGo.st (fun _ kz => XS.iconst X134.here hx rfl (hb hby at_116) kz) ?_
        show OGo p.tables e below Φ (T134.setTop (mkF m 117 #[.val (.int xk), .val (.int xa), .val (.int xb), .val (.ref b1), .val (.ref b74), .val (.int (3 : Int32)), .val (.int (0 : Int32)), .val (.int (0 : Int32)), .val (.int (0 : Int32)), .unset] [(.int (1 : Int32)), (.int (9 : Int32))]))
        refine OGo.st (fun _ kz => XS.iand X134.here hx rfl (hb hby at_117) rfl kz) ?_
        show OGo p.tables e below Φ (T134.setTop (mkF m 118 #[.val (.int xk), .val (.int xa), .val (.int xb), .val (.ref b1), .val (.ref b74), .val (.int (3 : Int32)), .val (.int (0 : Int32)), .val (.int (0 : Int32)), .val (.int (0 : Int32)), .unset] [(.int (1 : Int32))]))
        refine OGo.st (fun _ kz => XS.ifNo X134.here hx rfl (hb hby at_118) rfl (XT.i0_eq_f (by decide)) kz) ?_
        show OGo p.tables e below Φ (T134.setTop (mkF m 121 #[.val (.int xk), .val (.int xa), .val (.int xb), .val (.ref b1), .val (.ref b74), .val (.int (3 : Int32)), .val (.int (0 : Int32)), .val (.int (0 : Int32)), .val (.int (0 : Int32)), .unset] []))
        refine OGo.st (fun _ kz => XS.iconst X134.here hx rfl (hb hby at_121) kz) ?_
        show OGo p.tables e below Φ (T134.setTop (mkF m 122 #[.val (.int xk), .val (.int xa), .val (.int xb), .val (.ref b1), .val (.ref b74), .val (.int (3 : Int32)), .val (.int (0 : Int32)), .val (.int (0 : Int32)), .val (.int (0 : Int32)), .unset] [(.int (1 : Int32))]))
        refine OGo.st (fun _ kz => XS.goto X134.here hx rfl (pc0 := 122) (pc' := 126) rfl (hb hby at_122) (by decide) (by decide) kz) ?_
        show OGo p.tables e below Φ (T134.setTop (mkF m 126 #[.val (.int xk), .val (.int xa), .val (.int xb), .val (.ref b1), .val (.ref b74), .val (.int (3 : Int32)), .val (.int (0 : Int32)), .val (.int (0 : Int32)), .val (.int (0 : Int32)), .unset] [(.int (1 : Int32))]))
        refine OGo.st (fun _ kz => XS.istore X134.here hx rfl (hb hby at_126) rfl (l' := #[.val (.int xk), .val (.int xa), .val (.int xb), .val (.ref b1), .val (.ref b74), .val (.int (3 : Int32)), .val (.int (0 : Int32)), .val (.int (0 : Int32)), .val (.int (0 : Int32)), .val (.int (1 : Int32))]) rfl kz) ?_
        show OGo p.tables e below Φ (T134.setTop (mkF m 128 #[.val (.int xk), .val (.int xa), .val (.int xb), .val (.ref b1), .val (.ref b74), .val (.int (3 : Int32)), .val (.int (0 : Int32)), .val (.int (0 : Int32)), .val (.int (0 : Int32)), .val (.int (1 : Int32))] []))
        refine OGo.st (fun _ kz => XS.aloadN X134.here hx rfl (hb hby at_128) rfl rfl kz) ?_
        show OGo p.tables e below Φ (T134.setTop (mkF m 129 #[.val (.int xk), .val (.int xa), .val (.int xb), .val (.ref b1), .val (.ref b74), .val (.int (3 : Int32)), .val (.int (0 : Int32)), .val (.int (0 : Int32)), .val (.int (0 : Int32)), .val (.int (1 : Int32))] [(.ref b1)]))
        refine OGo.st (fun _ kz => XS.iload X134.here hx rfl (hb hby at_129) rfl kz) ?_
        show OGo p.tables e below Φ (T134.setTop (mkF m 131 #[.val (.int xk), .val (.int xa), .val (.int xb), .val (.ref b1), .val (.ref b74), .val (.int (3 : Int32)), .val (.int (0 : Int32)), .val (.int (0 : Int32)), .val (.int (0 : Int32)), .val (.int (1 : Int32))] [(.int (3 : Int32)), (.ref b1)]))
        obtain ⟨cl210, Aq210, -, S210, M210, H210, -⟩ := id F148
        have in210 : ¬ ((3 : Int32) < 0 ∨ cl210.slots.size ≤ (3 : Int32).toNatClampNeg) := inb_of S210 ⟨by decide, by decide⟩
        have at210 : cl210.slots[(3 : Int32).toNatClampNeg]? = some (.ref a3_) := H210.at in210 rfl
        refine OGo.st (fun _ kz => X134.aaload hx (by rw [e134]; exact Aq210.1) (State.isArrayOf_alike hZ.alike Aq210.2.1) rfl Aq210.2.2 in210 at210 (g := (mkF m 131 #[.val (.int xk), .val (.int xa), .val (.int xb), .val (.ref b1), .val (.ref b74), .val (.int (3 : Int32)), .val (.int (0 : Int32)), .val (.int (0 : Int32)), .val (.int (0 : Int32)), .val (.int (1 : Int32))] [(.int (3 : Int32)), (.ref b1)])) rfl rfl (hb hby at_131) _ kz) ?_
        show OGo p.tables e below Φ (T134.setTop (mkF m 132 #[.val (.int xk), .val (.int xa), .val (.int xb), .val (.ref b1), .val (.ref b74), .val (.int (3 : Int32)), .val (.int (0 : Int32)), .val (.int (0 : Int32)), .val (.int (0 : Int32)), .val (.int (1 : Int32))] [(.ref a3_)]))
        refine OGo.st (fun _ kz => XS.iload X134.here hx rfl (hb hby at_132) rfl kz) ?_
        show OGo p.tables e below Φ (T134.setTop (mkF m 134 #[.val (.int xk), .val (.int xa), .val (.int xb), .val (.ref b1), .val (.ref b74), .val (.int (3 : Int32)), .val (.int (0 : Int32)), .val (.int (0 : Int32)), .val (.int (0 : Int32)), .val (.int (1 : Int32))] [(.int (0 : Int32)), (.ref a3_)]))
        refine OGo.st (fun _ kz => XS.iload X134.here hx rfl (hb hby at_134) rfl kz) ?_
        show OGo p.tables e below Φ (T134.setTop (mkF m 136 #[.val (.int xk), .val (.int xa), .val (.int xb), .val (.ref b1), .val (.ref b74), .val (.int (3 : Int32)), .val (.int (0 : Int32)), .val (.int (0 : Int32)), .val (.int (0 : Int32)), .val (.int (1 : Int32))] [(.int (0 : Int32)), (.int (0 : Int32)), (.ref a3_)]))
        obtain ⟨_, T211, L211, X211, hQ211, st211⟩ := own_callVi X134 hx hZ hown (ow13 hw) (ow14 hw) (notFace_of_selects (args := #[]) (mvT hZ (ow16 hw))) (ow16 hw) (ow15 hw) (ow3 hw) (ow17 hw) (by decide) (rm2_3 l Z a0 hw [] a3_ (0 : Int32) (0 : Int32) h134 n0 Zs134 F146 F145) e134 (W := 0) (by decide) (by decide) (by decide) (by decide) F145 (pc := 136) (ls := #[.val (.int xk), .val (.int xa), .val (.int xb), .val (.ref b1), .val (.ref b74), .val (.int (3 : Int32)), .val (.int (0 : Int32)), .val (.int (0 : Int32)), .val (.int (0 : Int32)), .val (.int (1 : Int32))]) (stk := [(.int (0 : Int32)), (.int (0 : Int32)), (.ref a3_)]) (by rw [hml]; rfl) (argsL := [(.int (0 : Int32)), (.int (0 : Int32))]) (rest := []) (lenOf pd1 rfl) rfl rfl (Nat.le_of_eq rfl) (hb hby at_136)
        obtain ⟨rfl, Nq211, e211⟩ := hQ211
        have N211 := Fr.app N134 Nq211
        refine OGo.st st211 ?_
        show OGo p.tables e below Φ (T211.setTop (mkF m 139 #[.val (.int xk), .val (.int xa), .val (.int xb), .val (.ref b1), .val (.ref b74), .val (.int (3 : Int32)), .val (.int (0 : Int32)), .val (.int (0 : Int32)), .val (.int (0 : Int32)), .val (.int (1 : Int32))] [(.int (own_ap3 (0 : Int32) (0 : Int32)))]))
        refine OGo.st (fun _ kz => XS.iload X211.here hx rfl (hb hby at_139) rfl kz) ?_
        show OGo p.tables e below Φ (T211.setTop (mkF m 141 #[.val (.int xk), .val (.int xa), .val (.int xb), .val (.ref b1), .val (.ref b74), .val (.int (3 : Int32)), .val (.int (0 : Int32)), .val (.int (0 : Int32)), .val (.int (0 : Int32)), .val (.int (1 : Int32))] [(.int (1 : Int32)), (.int (own_ap3 (0 : Int32) (0 : Int32)))]))
        by_cases hc212 : (own_ap3 (0 : Int32) (0 : Int32)) = (1 : Int32)
        · refine OGo.st (fun _ kz => XS.icmpNo X211.here hx rfl (hb hby at_141) rfl (XT.ii_ne_f hc212) kz) ?_
          show OGo p.tables e below Φ (T211.setTop (mkF m 144 #[.val (.int xk), .val (.int xa), .val (.int xb), .val (.ref b1), .val (.ref b74), .val (.int (3 : Int32)), .val (.int (0 : Int32)), .val (.int (0 : Int32)), .val (.int (0 : Int32)), .val (.int (1 : Int32))] []))
          refine OGo.st (fun _ kz => XS.iconst X211.here hx rfl (hb hby at_144) kz) ?_
          show OGo p.tables e below Φ (T211.setTop (mkF m 145 #[.val (.int xk), .val (.int xa), .val (.int xb), .val (.ref b1), .val (.ref b74), .val (.int (3 : Int32)), .val (.int (0 : Int32)), .val (.int (0 : Int32)), .val (.int (0 : Int32)), .val (.int (1 : Int32))] [(.int (1 : Int32))]))
          refine OGo.st (fun _ kz => XS.goto X211.here hx rfl (pc0 := 145) (pc' := 149) rfl (hb hby at_145) (by decide) (by decide) kz) ?_
          show OGo p.tables e below Φ (T211.setTop (mkF m 149 #[.val (.int xk), .val (.int xa), .val (.int xb), .val (.ref b1), .val (.ref b74), .val (.int (3 : Int32)), .val (.int (0 : Int32)), .val (.int (0 : Int32)), .val (.int (0 : Int32)), .val (.int (1 : Int32))] [(.int (1 : Int32))]))
          refine OGo.fin X211 hlk (v := (some (.int (1 : Int32)))) (fun h => by rw [hret] at h; cases h) (by decide) (by decide) (fun fs hr => X211.ireturnOut hx hret rfl (by simp) (hb hby at_149) hr) fun U eU hF => hΦ _ _ _ ?_ hF
          rw [eU, e211]
          show Q_rm0 Z xk xa xb a0_ a1_ a2_ a3_ h0 n0 _ _ _
          exact ⟨rfl, N211⟩
        · refine OGo.st (fun _ kz => XS.icmpYes X211.here hx rfl (pc0 := 141) (pc' := 148) rfl (hb hby at_141) rfl (XT.ii_ne_t hc212) (by decide) (by decide) kz) ?_
          show OGo p.tables e below Φ (T211.setTop (mkF m 148 #[.val (.int xk), .val (.int xa), .val (.int xb), .val (.ref b1), .val (.ref b74), .val (.int (3 : Int32)), .val (.int (0 : Int32)), .val (.int (0 : Int32)), .val (.int (0 : Int32)), .val (.int (1 : Int32))] []))
          refine OGo.st (fun _ kz => XS.iconst X211.here hx rfl (hb hby at_148) kz) ?_
          show OGo p.tables e below Φ (T211.setTop (mkF m 149 #[.val (.int xk), .val (.int xa), .val (.int xb), .val (.ref b1), .val (.ref b74), .val (.int (3 : Int32)), .val (.int (0 : Int32)), .val (.int (0 : Int32)), .val (.int (0 : Int32)), .val (.int (1 : Int32))] [(.int (0 : Int32))]))
          exact absurd (by decide) hc212
      · refine OGo.st (fun _ kz => XS.ifNo X134.here hx rfl (hb hby at_75) rfl (XT.i0_eq_f hc208) kz) ?_
        show OGo p.tables e below Φ (T134.setTop (mkF m 78 #[.val (.int xk), .val (.int xa), .val (.int xb), .val (.ref b1), .val (.ref b74), .val (.int (3 : Int32)), .val (.int (0 : Int32)), .unset, .unset, .unset] []))
        refine OGo.st (fun _ kz => XS.iconst X134.here hx rfl (hb hby at_78) kz) ?_
        show OGo p.tables e below Φ (T134.setTop (mkF m 79 #[.val (.int xk), .val (.int xa), .val (.int xb), .val (.ref b1), .val (.ref b74), .val (.int (3 : Int32)), .val (.int (0 : Int32)), .unset, .unset, .unset] [(.int (1 : Int32))]))
        refine OGo.st (fun _ kz => XS.goto X134.here hx rfl (pc0 := 79) (pc' := 83) rfl (hb hby at_79) (by decide) (by decide) kz) ?_
        show OGo p.tables e below Φ (T134.setTop (mkF m 83 #[.val (.int xk), .val (.int xa), .val (.int xb), .val (.ref b1), .val (.ref b74), .val (.int (3 : Int32)), .val (.int (0 : Int32)), .unset, .unset, .unset] [(.int (1 : Int32))]))
        refine OGo.st (fun _ kz => XS.istore X134.here hx rfl (hb hby at_83) rfl (l' := #[.val (.int xk), .val (.int xa), .val (.int xb), .val (.ref b1), .val (.ref b74), .val (.int (3 : Int32)), .val (.int (0 : Int32)), .val (.int (1 : Int32)), .unset, .unset]) rfl kz) ?_
        show OGo p.tables e below Φ (T134.setTop (mkF m 85 #[.val (.int xk), .val (.int xa), .val (.int xb), .val (.ref b1), .val (.ref b74), .val (.int (3 : Int32)), .val (.int (0 : Int32)), .val (.int (1 : Int32)), .unset, .unset] []))
        refine OGo.st (fun _ kz => XS.iload X134.here hx rfl (hb hby at_85) rfl kz) ?_
        show OGo p.tables e below Φ (T134.setTop (mkF m 87 #[.val (.int xk), .val (.int xa), .val (.int xb), .val (.ref b1), .val (.ref b74), .val (.int (3 : Int32)), .val (.int (0 : Int32)), .val (.int (1 : Int32)), .unset, .unset] [(.int (0 : Int32))]))
        refine OGo.st (fun _ kz => XS.ifYes X134.here hx rfl (pc0 := 87) (pc' := 94) rfl (hb hby at_87) rfl (XT.i0_eq_t (by decide)) (by decide) (by decide) kz) ?_
        show OGo p.tables e below Φ (T134.setTop (mkF m 94 #[.val (.int xk), .val (.int xa), .val (.int xb), .val (.ref b1), .val (.ref b74), .val (.int (3 : Int32)), .val (.int (0 : Int32)), .val (.int (1 : Int32)), .unset, .unset] []))
        refine OGo.st (fun _ kz => XS.iconst X134.here hx rfl (hb hby at_94) kz) ?_
        show OGo p.tables e below Φ (T134.setTop (mkF m 95 #[.val (.int xk), .val (.int xa), .val (.int xb), .val (.ref b1), .val (.ref b74), .val (.int (3 : Int32)), .val (.int (0 : Int32)), .val (.int (1 : Int32)), .unset, .unset] [(.int (0 : Int32))]))
        refine OGo.st (fun _ kz => XS.iload X134.here hx rfl (hb hby at_95) rfl kz) ?_
        show OGo p.tables e below Φ (T134.setTop (mkF m 97 #[.val (.int xk), .val (.int xa), .val (.int xb), .val (.ref b1), .val (.ref b74), .val (.int (3 : Int32)), .val (.int (0 : Int32)), .val (.int (1 : Int32)), .unset, .unset] [(.int (1 : Int32)), (.int (0 : Int32))]))
        refine OGo.st (fun _ kz => XS.ifNo X134.here hx rfl (hb hby at_97) rfl (XT.i0_eq_f (by decide)) kz) ?_
        show OGo p.tables e below Φ (T134.setTop (mkF m 100 #[.val (.int xk), .val (.int xa), .val (.int xb), .val (.ref b1), .val (.ref b74), .val (.int (3 : Int32)), .val (.int (0 : Int32)), .val (.int (1 : Int32)), .unset, .unset] [(.int (0 : Int32))]))
        refine OGo.st (fun _ kz => XS.iconst X134.here hx rfl (hb hby at_100) kz) ?_
        show OGo p.tables e below Φ (T134.setTop (mkF m 101 #[.val (.int xk), .val (.int xa), .val (.int xb), .val (.ref b1), .val (.ref b74), .val (.int (3 : Int32)), .val (.int (0 : Int32)), .val (.int (1 : Int32)), .unset, .unset] [(.int (1 : Int32)), (.int (0 : Int32))]))
        refine OGo.st (fun _ kz => XS.goto X134.here hx rfl (pc0 := 101) (pc' := 105) rfl (hb hby at_101) (by decide) (by decide) kz) ?_
        show OGo p.tables e below Φ (T134.setTop (mkF m 105 #[.val (.int xk), .val (.int xa), .val (.int xb), .val (.ref b1), .val (.ref b74), .val (.int (3 : Int32)), .val (.int (0 : Int32)), .val (.int (1 : Int32)), .unset, .unset] [(.int (1 : Int32)), (.int (0 : Int32))]))
        refine OGo.st (fun _ kz => XS.iadd X134.here hx rfl (hb hby at_105) rfl kz) ?_
        show OGo p.tables e below Φ (T134.setTop (mkF m 106 #[.val (.int xk), .val (.int xa), .val (.int xb), .val (.ref b1), .val (.ref b74), .val (.int (3 : Int32)), .val (.int (0 : Int32)), .val (.int (1 : Int32)), .unset, .unset] [(.int (1 : Int32))]))
        refine OGo.st (fun _ kz => XS.istore X134.here hx rfl (hb hby at_106) rfl (l' := #[.val (.int xk), .val (.int xa), .val (.int xb), .val (.ref b1), .val (.ref b74), .val (.int (3 : Int32)), .val (.int (0 : Int32)), .val (.int (1 : Int32)), .val (.int (1 : Int32)), .unset]) rfl kz) ?_
        show OGo p.tables e below Φ (T134.setTop (mkF m 108 #[.val (.int xk), .val (.int xa), .val (.int xb), .val (.ref b1), .val (.ref b74), .val (.int (3 : Int32)), .val (.int (0 : Int32)), .val (.int (1 : Int32)), .val (.int (1 : Int32)), .unset] []))
        refine OGo.st (fun _ kz => XS.aload X134.here hx rfl (hb hby at_108) rfl rfl kz) ?_
        show OGo p.tables e below Φ (T134.setTop (mkF m 110 #[.val (.int xk), .val (.int xa), .val (.int xb), .val (.ref b1), .val (.ref b74), .val (.int (3 : Int32)), .val (.int (0 : Int32)), .val (.int (1 : Int32)), .val (.int (1 : Int32)), .unset] [(.ref b74)]))
        refine OGo.st (fun _ kz => XS.iload X134.here hx rfl (hb hby at_110) rfl kz) ?_
        show OGo p.tables e below Φ (T134.setTop (mkF m 112 #[.val (.int xk), .val (.int xa), .val (.int xb), .val (.ref b1), .val (.ref b74), .val (.int (3 : Int32)), .val (.int (0 : Int32)), .val (.int (1 : Int32)), .val (.int (1 : Int32)), .unset] [(.int (3 : Int32)), (.ref b74)]))
        obtain ⟨cl213, Aq213, -, S213, M213, H213, -⟩ := id V134
        have in213 : ¬ ((3 : Int32) < 0 ∨ cl213.slots.size ≤ (3 : Int32).toNatClampNeg) := inb_of S213 ⟨by decide, by decide⟩
        have at213 : cl213.slots[(3 : Int32).toNatClampNeg]? = some (.int (9 : Int32)) := H213.at in213 rfl
        refine OGo.st (fun _ kz => X134.iaload hx (by rw [e134]; exact Aq213.1) (State.isArrayOf_alike hZ.alike Aq213.2.1) Aq213.2.2 in213 at213 (g := (mkF m 112 #[.val (.int xk), .val (.int xa), .val (.int xb), .val (.ref b1), .val (.ref b74), .val (.int (3 : Int32)), .val (.int (0 : Int32)), .val (.int (1 : Int32)), .val (.int (1 : Int32)), .unset] [(.int (3 : Int32)), (.ref b74)])) rfl rfl (hb hby at_112) _ kz) ?_
        show OGo p.tables e below Φ (T134.setTop (mkF m 113 #[.val (.int xk), .val (.int xa), .val (.int xb), .val (.ref b1), .val (.ref b74), .val (.int (3 : Int32)), .val (.int (0 : Int32)), .val (.int (1 : Int32)), .val (.int (1 : Int32)), .unset] [(.int (9 : Int32))]))
        refine OGo.st (fun _ kz => XS.iload X134.here hx rfl (hb hby at_113) rfl kz) ?_
        show OGo p.tables e below Φ (T134.setTop (mkF m 115 #[.val (.int xk), .val (.int xa), .val (.int xb), .val (.ref b1), .val (.ref b74), .val (.int (3 : Int32)), .val (.int (0 : Int32)), .val (.int (1 : Int32)), .val (.int (1 : Int32)), .unset] [(.int (1 : Int32)), (.int (9 : Int32))]))
        refine OGo.st (fun _ kz => XT.ishr X134.here hx rfl (hb hby at_115) rfl kz) ?_
        show OGo p.tables e below Φ (T134.setTop (mkF m 116 #[.val (.int xk), .val (.int xa), .val (.int xb), .val (.ref b1), .val (.ref b74), .val (.int (3 : Int32)), .val (.int (0 : Int32)), .val (.int (1 : Int32)), .val (.int (1 : Int32)), .unset] [(.int (4 : Int32))]))
        refine OGo.st (fun _ kz => XS.iconst X134.here hx rfl (hb hby at_116) kz) ?_
        show OGo p.tables e below Φ (T134.setTop (mkF m 117 #[.val (.int xk), .val (.int xa), .val (.int xb), .val (.ref b1), .val (.ref b74), .val (.int (3 : Int32)), .val (.int (0 : Int32)), .val (.int (1 : Int32)), .val (.int (1 : Int32)), .unset] [(.int (1 : Int32)), (.int (4 : Int32))]))
        refine OGo.st (fun _ kz => XS.iand X134.here hx rfl (hb hby at_117) rfl kz) ?_
        show OGo p.tables e below Φ (T134.setTop (mkF m 118 #[.val (.int xk), .val (.int xa), .val (.int xb), .val (.ref b1), .val (.ref b74), .val (.int (3 : Int32)), .val (.int (0 : Int32)), .val (.int (1 : Int32)), .val (.int (1 : Int32)), .unset] [(.int (0 : Int32))]))
        refine OGo.st (fun _ kz => XS.ifYes X134.here hx rfl (pc0 := 118) (pc' := 125) rfl (hb hby at_118) rfl (XT.i0_eq_t (by decide)) (by decide) (by decide) kz) ?_
        show OGo p.tables e below Φ (T134.setTop (mkF m 125 #[.val (.int xk), .val (.int xa), .val (.int xb), .val (.ref b1), .val (.ref b74), .val (.int (3 : Int32)), .val (.int (0 : Int32)), .val (.int (1 : Int32)), .val (.int (1 : Int32)), .unset] []))
        refine OGo.st (fun _ kz => XS.iconst X134.here hx rfl (hb hby at_125) kz) ?_
        show OGo p.tables e below Φ (T134.setTop (mkF m 126 #[.val (.int xk), .val (.int xa), .val (.int xb), .val (.ref b1), .val (.ref b74), .val (.int (3 : Int32)), .val (.int (0 : Int32)), .val (.int (1 : Int32)), .val (.int (1 : Int32)), .unset] [(.int (0 : Int32))]))
        refine OGo.st (fun _ kz => XS.istore X134.here hx rfl (hb hby at_126) rfl (l' := #[.val (.int xk), .val (.int xa), .val (.int xb), .val (.ref b1), .val (.ref b74), .val (.int (3 : Int32)), .val (.int (0 : Int32)), .val (.int (1 : Int32)), .val (.int (1 : Int32)), .val (.int (0 : Int32))]) rfl kz) ?_
        show OGo p.tables e below Φ (T134.setTop (mkF m 128 #[.val (.int xk), .val (.int xa), .val (.int xb), .val (.ref b1), .val (.ref b74), .val (.int (3 : Int32)), .val (.int (0 : Int32)), .val (.int (1 : Int32)), .val (.int (1 : Int32)), .val (.int (0 : Int32))] []))
        refine OGo.st (fun _ kz => XS.aloadN X134.here hx rfl (hb hby at_128) rfl rfl kz) ?_
        show OGo p.tables e below Φ (T134.setTop (mkF m 129 #[.val (.int xk), .val (.int xa), .val (.int xb), .val (.ref b1), .val (.ref b74), .val (.int (3 : Int32)), .val (.int (0 : Int32)), .val (.int (1 : Int32)), .val (.int (1 : Int32)), .val (.int (0 : Int32))] [(.ref b1)]))
        refine OGo.st (fun _ kz => XS.iload X134.here hx rfl (hb hby at_129) rfl kz) ?_
        show OGo p.tables e below Φ (T134.setTop (mkF m 131 #[.val (.int xk), .val (.int xa), .val (.int xb), .val (.ref b1), .val (.ref b74), .val (.int (3 : Int32)), .val (.int (0 : Int32)), .val (.int (1 : Int32)), .val (.int (1 : Int32)), .val (.int (0 : Int32))] [(.int (3 : Int32)), (.ref b1)]))
        obtain ⟨cl214, Aq214, -, S214, M214, H214, -⟩ := id F148
        have in214 : ¬ ((3 : Int32) < 0 ∨ cl214.slots.size ≤ (3 : Int32).toNatClampNeg) := inb_of S214 ⟨by decide, by decide⟩
        have at214 : cl214.slots[(3 : Int32).toNatClampNeg]? = some (.ref a3_) := H214.at in214 rfl
        refine OGo.st (fun _ kz => X134.aaload hx (by rw [e134]; exact Aq214.1) (State.isArrayOf_alike hZ.alike Aq214.2.1) rfl Aq214.2.2 in214 at214 (g := (mkF m 131 #[.val (.int xk), .val (.int xa), .val (.int xb), .val (.ref b1), .val (.ref b74), .val (.int (3 : Int32)), .val (.int (0 : Int32)), .val (.int (1 : Int32)), .val (.int (1 : Int32)), .val (.int (0 : Int32))] [(.int (3 : Int32)), (.ref b1)])) rfl rfl (hb hby at_131) _ kz) ?_
        show OGo p.tables e below Φ (T134.setTop (mkF m 132 #[.val (.int xk), .val (.int xa), .val (.int xb), .val (.ref b1), .val (.ref b74), .val (.int (3 : Int32)), .val (.int (0 : Int32)), .val (.int (1 : Int32)), .val (.int (1 : Int32)), .val (.int (0 : Int32))] [(.ref a3_)]))
        refine OGo.st (fun _ kz => XS.iload X134.here hx rfl (hb hby at_132) rfl kz) ?_
        show OGo p.tables e below Φ (T134.setTop (mkF m 134 #[.val (.int xk), .val (.int xa), .val (.int xb), .val (.ref b1), .val (.ref b74), .val (.int (3 : Int32)), .val (.int (0 : Int32)), .val (.int (1 : Int32)), .val (.int (1 : Int32)), .val (.int (0 : Int32))] [(.int (0 : Int32)), (.ref a3_)]))
        refine OGo.st (fun _ kz => XS.iload X134.here hx rfl (hb hby at_134) rfl kz) ?_
        show OGo p.tables e below Φ (T134.setTop (mkF m 136 #[.val (.int xk), .val (.int xa), .val (.int xb), .val (.ref b1), .val (.ref b74), .val (.int (3 : Int32)), .val (.int (0 : Int32)), .val (.int (1 : Int32)), .val (.int (1 : Int32)), .val (.int (0 : Int32))] [(.int (1 : Int32)), (.int (0 : Int32)), (.ref a3_)]))
        obtain ⟨_, T215, L215, X215, hQ215, st215⟩ := own_callVi X134 hx hZ hown (ow13 hw) (ow14 hw) (notFace_of_selects (args := #[]) (mvT hZ (ow16 hw))) (ow16 hw) (ow15 hw) (ow3 hw) (ow17 hw) (by decide) (rm2_3 l Z a0 hw [] a3_ (0 : Int32) (1 : Int32) h134 n0 Zs134 F146 F145) e134 (W := 0) (by decide) (by decide) (by decide) (by decide) F145 (pc := 136) (ls := #[.val (.int xk), .val (.int xa), .val (.int xb), .val (.ref b1), .val (.ref b74), .val (.int (3 : Int32)), .val (.int (0 : Int32)), .val (.int (1 : Int32)), .val (.int (1 : Int32)), .val (.int (0 : Int32))]) (stk := [(.int (1 : Int32)), (.int (0 : Int32)), (.ref a3_)]) (by rw [hml]; rfl) (argsL := [(.int (0 : Int32)), (.int (1 : Int32))]) (rest := []) (lenOf pd1 rfl) rfl rfl (Nat.le_of_eq rfl) (hb hby at_136)
        obtain ⟨rfl, Nq215, e215⟩ := hQ215
        have N215 := Fr.app N134 Nq215
        refine OGo.st st215 ?_
        show OGo p.tables e below Φ (T215.setTop (mkF m 139 #[.val (.int xk), .val (.int xa), .val (.int xb), .val (.ref b1), .val (.ref b74), .val (.int (3 : Int32)), .val (.int (0 : Int32)), .val (.int (1 : Int32)), .val (.int (1 : Int32)), .val (.int (0 : Int32))] [(.int (own_ap3 (0 : Int32) (1 : Int32)))]))
        refine OGo.st (fun _ kz => XS.iload X215.here hx rfl (hb hby at_139) rfl kz) ?_
        show OGo p.tables e below Φ (T215.setTop (mkF m 141 #[.val (.int xk), .val (.int xa), .val (.int xb), .val (.ref b1), .val (.ref b74), .val (.int (3 : Int32)), .val (.int (0 : Int32)), .val (.int (1 : Int32)), .val (.int (1 : Int32)), .val (.int (0 : Int32))] [(.int (0 : Int32)), (.int (own_ap3 (0 : Int32) (1 : Int32)))]))
        by_cases hc216 : (own_ap3 (0 : Int32) (1 : Int32)) = (0 : Int32)
        · refine OGo.st (fun _ kz => XS.icmpNo X215.here hx rfl (hb hby at_141) rfl (XT.ii_ne_f hc216) kz) ?_
          show OGo p.tables e below Φ (T215.setTop (mkF m 144 #[.val (.int xk), .val (.int xa), .val (.int xb), .val (.ref b1), .val (.ref b74), .val (.int (3 : Int32)), .val (.int (0 : Int32)), .val (.int (1 : Int32)), .val (.int (1 : Int32)), .val (.int (0 : Int32))] []))
          refine OGo.st (fun _ kz => XS.iconst X215.here hx rfl (hb hby at_144) kz) ?_
          show OGo p.tables e below Φ (T215.setTop (mkF m 145 #[.val (.int xk), .val (.int xa), .val (.int xb), .val (.ref b1), .val (.ref b74), .val (.int (3 : Int32)), .val (.int (0 : Int32)), .val (.int (1 : Int32)), .val (.int (1 : Int32)), .val (.int (0 : Int32))] [(.int (1 : Int32))]))
          refine OGo.st (fun _ kz => XS.goto X215.here hx rfl (pc0 := 145) (pc' := 149) rfl (hb hby at_145) (by decide) (by decide) kz) ?_
          show OGo p.tables e below Φ (T215.setTop (mkF m 149 #[.val (.int xk), .val (.int xa), .val (.int xb), .val (.ref b1), .val (.ref b74), .val (.int (3 : Int32)), .val (.int (0 : Int32)), .val (.int (1 : Int32)), .val (.int (1 : Int32)), .val (.int (0 : Int32))] [(.int (1 : Int32))]))
          refine OGo.fin X215 hlk (v := (some (.int (1 : Int32)))) (fun h => by rw [hret] at h; cases h) (by decide) (by decide) (fun fs hr => X215.ireturnOut hx hret rfl (by simp) (hb hby at_149) hr) fun U eU hF => hΦ _ _ _ ?_ hF
          rw [eU, e215]
          show Q_rm0 Z xk xa xb a0_ a1_ a2_ a3_ h0 n0 _ _ _
          exact ⟨rfl, N215⟩
        · refine OGo.st (fun _ kz => XS.icmpYes X215.here hx rfl (pc0 := 141) (pc' := 148) rfl (hb hby at_141) rfl (XT.ii_ne_t hc216) (by decide) (by decide) kz) ?_
          show OGo p.tables e below Φ (T215.setTop (mkF m 148 #[.val (.int xk), .val (.int xa), .val (.int xb), .val (.ref b1), .val (.ref b74), .val (.int (3 : Int32)), .val (.int (0 : Int32)), .val (.int (1 : Int32)), .val (.int (1 : Int32)), .val (.int (0 : Int32))] []))
          refine OGo.st (fun _ kz => XS.iconst X215.here hx rfl (hb hby at_148) kz) ?_
          show OGo p.tables e below Φ (T215.setTop (mkF m 149 #[.val (.int xk), .val (.int xa), .val (.int xb), .val (.ref b1), .val (.ref b74), .val (.int (3 : Int32)), .val (.int (0 : Int32)), .val (.int (1 : Int32)), .val (.int (1 : Int32)), .val (.int (0 : Int32))] [(.int (0 : Int32))]))
          exact absurd (by decide) hc216
    · refine OGo.st (fun _ kz => XS.ifNo X134.here hx rfl (hb hby at_62) rfl (XT.i0_eq_f hc207) kz) ?_
      show OGo p.tables e below Φ (T134.setTop (mkF m 65 #[.val (.int xk), .val (.int xa), .val (.int xb), .val (.ref b1), .val (.ref b74), .val (.int (3 : Int32)), .unset, .unset, .unset, .unset] []))
      refine OGo.st (fun _ kz => XS.iconst X134.here hx rfl (hb hby at_65) kz) ?_
      show OGo p.tables e below Φ (T134.setTop (mkF m 66 #[.val (.int xk), .val (.int xa), .val (.int xb), .val (.ref b1), .val (.ref b74), .val (.int (3 : Int32)), .unset, .unset, .unset, .unset] [(.int (1 : Int32))]))
      refine OGo.st (fun _ kz => XS.goto X134.here hx rfl (pc0 := 66) (pc' := 70) rfl (hb hby at_66) (by decide) (by decide) kz) ?_
      show OGo p.tables e below Φ (T134.setTop (mkF m 70 #[.val (.int xk), .val (.int xa), .val (.int xb), .val (.ref b1), .val (.ref b74), .val (.int (3 : Int32)), .unset, .unset, .unset, .unset] [(.int (1 : Int32))]))
      refine OGo.st (fun _ kz => XS.istore X134.here hx rfl (hb hby at_70) rfl (l' := #[.val (.int xk), .val (.int xa), .val (.int xb), .val (.ref b1), .val (.ref b74), .val (.int (3 : Int32)), .val (.int (1 : Int32)), .unset, .unset, .unset]) rfl kz) ?_
      show OGo p.tables e below Φ (T134.setTop (mkF m 72 #[.val (.int xk), .val (.int xa), .val (.int xb), .val (.ref b1), .val (.ref b74), .val (.int (3 : Int32)), .val (.int (1 : Int32)), .unset, .unset, .unset] []))
      refine OGo.st (fun _ kz => XS.iloadN X134.here hx rfl (hb hby at_72) rfl kz) ?_
      show OGo p.tables e below Φ (T134.setTop (mkF m 73 #[.val (.int xk), .val (.int xa), .val (.int xb), .val (.ref b1), .val (.ref b74), .val (.int (3 : Int32)), .val (.int (1 : Int32)), .unset, .unset, .unset] [(.int xb)]))
      refine OGo.st (fun _ kz => XS.iconst X134.here hx rfl (hb hby at_73) kz) ?_
      show OGo p.tables e below Φ (T134.setTop (mkF m 74 #[.val (.int xk), .val (.int xa), .val (.int xb), .val (.ref b1), .val (.ref b74), .val (.int (3 : Int32)), .val (.int (1 : Int32)), .unset, .unset, .unset] [(.int (1 : Int32)), (.int xb)]))
      refine OGo.st (fun _ kz => XS.iand X134.here hx rfl (hb hby at_74) rfl kz) ?_
      show OGo p.tables e below Φ (T134.setTop (mkF m 75 #[.val (.int xk), .val (.int xa), .val (.int xb), .val (.ref b1), .val (.ref b74), .val (.int (3 : Int32)), .val (.int (1 : Int32)), .unset, .unset, .unset] [(.int (xb &&& (1 : Int32)))]))
      by_cases hc217 : (xb &&& (1 : Int32)) = 0
      · refine OGo.st (fun _ kz => XS.ifYes X134.here hx rfl (pc0 := 75) (pc' := 82) rfl (hb hby at_75) rfl (XT.i0_eq_t hc217) (by decide) (by decide) kz) ?_
        show OGo p.tables e below Φ (T134.setTop (mkF m 82 #[.val (.int xk), .val (.int xa), .val (.int xb), .val (.ref b1), .val (.ref b74), .val (.int (3 : Int32)), .val (.int (1 : Int32)), .unset, .unset, .unset] []))
        refine OGo.st (fun _ kz => XS.iconst X134.here hx rfl (hb hby at_82) kz) ?_
        show OGo p.tables e below Φ (T134.setTop (mkF m 83 #[.val (.int xk), .val (.int xa), .val (.int xb), .val (.ref b1), .val (.ref b74), .val (.int (3 : Int32)), .val (.int (1 : Int32)), .unset, .unset, .unset] [(.int (0 : Int32))]))
        refine OGo.st (fun _ kz => XS.istore X134.here hx rfl (hb hby at_83) rfl (l' := #[.val (.int xk), .val (.int xa), .val (.int xb), .val (.ref b1), .val (.ref b74), .val (.int (3 : Int32)), .val (.int (1 : Int32)), .val (.int (0 : Int32)), .unset, .unset]) rfl kz) ?_
        show OGo p.tables e below Φ (T134.setTop (mkF m 85 #[.val (.int xk), .val (.int xa), .val (.int xb), .val (.ref b1), .val (.ref b74), .val (.int (3 : Int32)), .val (.int (1 : Int32)), .val (.int (0 : Int32)), .unset, .unset] []))
        refine OGo.st (fun _ kz => XS.iload X134.here hx rfl (hb hby at_85) rfl kz) ?_
        show OGo p.tables e below Φ (T134.setTop (mkF m 87 #[.val (.int xk), .val (.int xa), .val (.int xb), .val (.ref b1), .val (.ref b74), .val (.int (3 : Int32)), .val (.int (1 : Int32)), .val (.int (0 : Int32)), .unset, .unset] [(.int (1 : Int32))]))
        refine OGo.st (fun _ kz => XS.ifNo X134.here hx rfl (hb hby at_87) rfl (XT.i0_eq_f (by decide)) kz) ?_
        show OGo p.tables e below Φ (T134.setTop (mkF m 90 #[.val (.int xk), .val (.int xa), .val (.int xb), .val (.ref b1), .val (.ref b74), .val (.int (3 : Int32)), .val (.int (1 : Int32)), .val (.int (0 : Int32)), .unset, .unset] []))
        refine OGo.st (fun _ kz => XS.iconst X134.here hx rfl (hb hby at_90) kz) ?_
        show OGo p.tables e below Φ (T134.setTop (mkF m 91 #[.val (.int xk), .val (.int xa), .val (.int xb), .val (.ref b1), .val (.ref b74), .val (.int (3 : Int32)), .val (.int (1 : Int32)), .val (.int (0 : Int32)), .unset, .unset] [(.int (2 : Int32))]))
        refine OGo.st (fun _ kz => XS.goto X134.here hx rfl (pc0 := 91) (pc' := 95) rfl (hb hby at_91) (by decide) (by decide) kz) ?_
        show OGo p.tables e below Φ (T134.setTop (mkF m 95 #[.val (.int xk), .val (.int xa), .val (.int xb), .val (.ref b1), .val (.ref b74), .val (.int (3 : Int32)), .val (.int (1 : Int32)), .val (.int (0 : Int32)), .unset, .unset] [(.int (2 : Int32))]))
        refine OGo.st (fun _ kz => XS.iload X134.here hx rfl (hb hby at_95) rfl kz) ?_
        show OGo p.tables e below Φ (T134.setTop (mkF m 97 #[.val (.int xk), .val (.int xa), .val (.int xb), .val (.ref b1), .val (.ref b74), .val (.int (3 : Int32)), .val (.int (1 : Int32)), .val (.int (0 : Int32)), .unset, .unset] [(.int (0 : Int32)), (.int (2 : Int32))]))
        refine OGo.st (fun _ kz => XS.ifYes X134.here hx rfl (pc0 := 97) (pc' := 104) rfl (hb hby at_97) rfl (XT.i0_eq_t (by decide)) (by decide) (by decide) kz) ?_
        show OGo p.tables e below Φ (T134.setTop (mkF m 104 #[.val (.int xk), .val (.int xa), .val (.int xb), .val (.ref b1), .val (.ref b74), .val (.int (3 : Int32)), .val (.int (1 : Int32)), .val (.int (0 : Int32)), .unset, .unset] [(.int (2 : Int32))]))
        refine OGo.st (fun _ kz => XS.iconst X134.here hx rfl (hb hby at_104) kz) ?_
        show OGo p.tables e below Φ (T134.setTop (mkF m 105 #[.val (.int xk), .val (.int xa), .val (.int xb), .val (.ref b1), .val (.ref b74), .val (.int (3 : Int32)), .val (.int (1 : Int32)), .val (.int (0 : Int32)), .unset, .unset] [(.int (0 : Int32)), (.int (2 : Int32))]))
        refine OGo.st (fun _ kz => XS.iadd X134.here hx rfl (hb hby at_105) rfl kz) ?_
        show OGo p.tables e below Φ (T134.setTop (mkF m 106 #[.val (.int xk), .val (.int xa), .val (.int xb), .val (.ref b1), .val (.ref b74), .val (.int (3 : Int32)), .val (.int (1 : Int32)), .val (.int (0 : Int32)), .unset, .unset] [(.int (2 : Int32))]))
        refine OGo.st (fun _ kz => XS.istore X134.here hx rfl (hb hby at_106) rfl (l' := #[.val (.int xk), .val (.int xa), .val (.int xb), .val (.ref b1), .val (.ref b74), .val (.int (3 : Int32)), .val (.int (1 : Int32)), .val (.int (0 : Int32)), .val (.int (2 : Int32)), .unset]) rfl kz) ?_
        show OGo p.tables e below Φ (T134.setTop (mkF m 108 #[.val (.int xk), .val (.int xa), .val (.int xb), .val (.ref b1), .val (.ref b74), .val (.int (3 : Int32)), .val (.int (1 : Int32)), .val (.int (0 : Int32)), .val (.int (2 : Int32)), .unset] []))
        refine OGo.st (fun _ kz => XS.aload X134.here hx rfl (hb hby at_108) rfl rfl kz) ?_
        show OGo p.tables e below Φ (T134.setTop (mkF m 110 #[.val (.int xk), .val (.int xa), .val (.int xb), .val (.ref b1), .val (.ref b74), .val (.int (3 : Int32)), .val (.int (1 : Int32)), .val (.int (0 : Int32)), .val (.int (2 : Int32)), .unset] [(.ref b74)]))
        refine OGo.st (fun _ kz => XS.iload X134.here hx rfl (hb hby at_110) rfl kz) ?_
        show OGo p.tables e below Φ (T134.setTop (mkF m 112 #[.val (.int xk), .val (.int xa), .val (.int xb), .val (.ref b1), .val (.ref b74), .val (.int (3 : Int32)), .val (.int (1 : Int32)), .val (.int (0 : Int32)), .val (.int (2 : Int32)), .unset] [(.int (3 : Int32)), (.ref b74)]))
        obtain ⟨cl218, Aq218, -, S218, M218, H218, -⟩ := id V134
        have in218 : ¬ ((3 : Int32) < 0 ∨ cl218.slots.size ≤ (3 : Int32).toNatClampNeg) := inb_of S218 ⟨by decide, by decide⟩
        have at218 : cl218.slots[(3 : Int32).toNatClampNeg]? = some (.int (9 : Int32)) := H218.at in218 rfl
        refine OGo.st (fun _ kz => X134.iaload hx (by rw [e134]; exact Aq218.1) (State.isArrayOf_alike hZ.alike Aq218.2.1) Aq218.2.2 in218 at218 (g := (mkF m 112 #[.val (.int xk), .val (.int xa), .val (.int xb), .val (.ref b1), .val (.ref b74), .val (.int (3 : Int32)), .val (.int (1 : Int32)), .val (.int (0 : Int32)), .val (.int (2 : Int32)), .unset] [(.int (3 : Int32)), (.ref b74)])) rfl rfl (hb hby at_112) _ kz) ?_
        show OGo p.tables e below Φ (T134.setTop (mkF m 113 #[.val (.int xk), .val (.int xa), .val (.int xb), .val (.ref b1), .val (.ref b74), .val (.int (3 : Int32)), .val (.int (1 : Int32)), .val (.int (0 : Int32)), .val (.int (2 : Int32)), .unset] [(.int (9 : Int32))]))
        refine OGo.st (fun _ kz => XS.iload X134.here hx rfl (hb hby at_113) rfl kz) ?_
        show OGo p.tables e below Φ (T134.setTop (mkF m 115 #[.val (.int xk), .val (.int xa), .val (.int xb), .val (.ref b1), .val (.ref b74), .val (.int (3 : Int32)), .val (.int (1 : Int32)), .val (.int (0 : Int32)), .val (.int (2 : Int32)), .unset] [(.int (2 : Int32)), (.int (9 : Int32))]))
        refine OGo.st (fun _ kz => XT.ishr X134.here hx rfl (hb hby at_115) rfl kz) ?_
        show OGo p.tables e below Φ (T134.setTop (mkF m 116 #[.val (.int xk), .val (.int xa), .val (.int xb), .val (.ref b1), .val (.ref b74), .val (.int (3 : Int32)), .val (.int (1 : Int32)), .val (.int (0 : Int32)), .val (.int (2 : Int32)), .unset] [(.int (2 : Int32))]))
        refine OGo.st (fun _ kz => XS.iconst X134.here hx rfl (hb hby at_116) kz) ?_
        show OGo p.tables e below Φ (T134.setTop (mkF m 117 #[.val (.int xk), .val (.int xa), .val (.int xb), .val (.ref b1), .val (.ref b74), .val (.int (3 : Int32)), .val (.int (1 : Int32)), .val (.int (0 : Int32)), .val (.int (2 : Int32)), .unset] [(.int (1 : Int32)), (.int (2 : Int32))]))
        refine OGo.st (fun _ kz => XS.iand X134.here hx rfl (hb hby at_117) rfl kz) ?_
        show OGo p.tables e below Φ (T134.setTop (mkF m 118 #[.val (.int xk), .val (.int xa), .val (.int xb), .val (.ref b1), .val (.ref b74), .val (.int (3 : Int32)), .val (.int (1 : Int32)), .val (.int (0 : Int32)), .val (.int (2 : Int32)), .unset] [(.int (0 : Int32))]))
        refine OGo.st (fun _ kz => XS.ifYes X134.here hx rfl (pc0 := 118) (pc' := 125) rfl (hb hby at_118) rfl (XT.i0_eq_t (by decide)) (by decide) (by decide) kz) ?_
        show OGo p.tables e below Φ (T134.setTop (mkF m 125 #[.val (.int xk), .val (.int xa), .val (.int xb), .val (.ref b1), .val (.ref b74), .val (.int (3 : Int32)), .val (.int (1 : Int32)), .val (.int (0 : Int32)), .val (.int (2 : Int32)), .unset] []))
        refine OGo.st (fun _ kz => XS.iconst X134.here hx rfl (hb hby at_125) kz) ?_
        show OGo p.tables e below Φ (T134.setTop (mkF m 126 #[.val (.int xk), .val (.int xa), .val (.int xb), .val (.ref b1), .val (.ref b74), .val (.int (3 : Int32)), .val (.int (1 : Int32)), .val (.int (0 : Int32)), .val (.int (2 : Int32)), .unset] [(.int (0 : Int32))]))
        refine OGo.st (fun _ kz => XS.istore X134.here hx rfl (hb hby at_126) rfl (l' := #[.val (.int xk), .val (.int xa), .val (.int xb), .val (.ref b1), .val (.ref b74), .val (.int (3 : Int32)), .val (.int (1 : Int32)), .val (.int (0 : Int32)), .val (.int (2 : Int32)), .val (.int (0 : Int32))]) rfl kz) ?_
        show OGo p.tables e below Φ (T134.setTop (mkF m 128 #[.val (.int xk), .val (.int xa), .val (.int xb), .val (.ref b1), .val (.ref b74), .val (.int (3 : Int32)), .val (.int (1 : Int32)), .val (.int (0 : Int32)), .val (.int (2 : Int32)), .val (.int (0 : Int32))] []))
        refine OGo.st (fun _ kz => XS.aloadN X134.here hx rfl (hb hby at_128) rfl rfl kz) ?_
        show OGo p.tables e below Φ (T134.setTop (mkF m 129 #[.val (.int xk), .val (.int xa), .val (.int xb), .val (.ref b1), .val (.ref b74), .val (.int (3 : Int32)), .val (.int (1 : Int32)), .val (.int (0 : Int32)), .val (.int (2 : Int32)), .val (.int (0 : Int32))] [(.ref b1)]))
        refine OGo.st (fun _ kz => XS.iload X134.here hx rfl (hb hby at_129) rfl kz) ?_
        show OGo p.tables e below Φ (T134.setTop (mkF m 131 #[.val (.int xk), .val (.int xa), .val (.int xb), .val (.ref b1), .val (.ref b74), .val (.int (3 : Int32)), .val (.int (1 : Int32)), .val (.int (0 : Int32)), .val (.int (2 : Int32)), .val (.int (0 : Int32))] [(.int (3 : Int32)), (.ref b1)]))
        obtain ⟨cl219, Aq219, -, S219, M219, H219, -⟩ := id F148
        have in219 : ¬ ((3 : Int32) < 0 ∨ cl219.slots.size ≤ (3 : Int32).toNatClampNeg) := inb_of S219 ⟨by decide, by decide⟩
        have at219 : cl219.slots[(3 : Int32).toNatClampNeg]? = some (.ref a3_) := H219.at in219 rfl
        refine OGo.st (fun _ kz => X134.aaload hx (by rw [e134]; exact Aq219.1) (State.isArrayOf_alike hZ.alike Aq219.2.1) rfl Aq219.2.2 in219 at219 (g := (mkF m 131 #[.val (.int xk), .val (.int xa), .val (.int xb), .val (.ref b1), .val (.ref b74), .val (.int (3 : Int32)), .val (.int (1 : Int32)), .val (.int (0 : Int32)), .val (.int (2 : Int32)), .val (.int (0 : Int32))] [(.int (3 : Int32)), (.ref b1)])) rfl rfl (hb hby at_131) _ kz) ?_
        show OGo p.tables e below Φ (T134.setTop (mkF m 132 #[.val (.int xk), .val (.int xa), .val (.int xb), .val (.ref b1), .val (.ref b74), .val (.int (3 : Int32)), .val (.int (1 : Int32)), .val (.int (0 : Int32)), .val (.int (2 : Int32)), .val (.int (0 : Int32))] [(.ref a3_)]))
        refine OGo.st (fun _ kz => XS.iload X134.here hx rfl (hb hby at_132) rfl kz) ?_
        show OGo p.tables e below Φ (T134.setTop (mkF m 134 #[.val (.int xk), .val (.int xa), .val (.int xb), .val (.ref b1), .val (.ref b74), .val (.int (3 : Int32)), .val (.int (1 : Int32)), .val (.int (0 : Int32)), .val (.int (2 : Int32)), .val (.int (0 : Int32))] [(.int (1 : Int32)), (.ref a3_)]))
        refine OGo.st (fun _ kz => XS.iload X134.here hx rfl (hb hby at_134) rfl kz) ?_
        show OGo p.tables e below Φ (T134.setTop (mkF m 136 #[.val (.int xk), .val (.int xa), .val (.int xb), .val (.ref b1), .val (.ref b74), .val (.int (3 : Int32)), .val (.int (1 : Int32)), .val (.int (0 : Int32)), .val (.int (2 : Int32)), .val (.int (0 : Int32))] [(.int (0 : Int32)), (.int (1 : Int32)), (.ref a3_)]))
        obtain ⟨_, T220, L220, X220, hQ220, st220⟩ := own_callVi X134 hx hZ hown (ow13 hw) (ow14 hw) (notFace_of_selects (args := #[]) (mvT hZ (ow16 hw))) (ow16 hw) (ow15 hw) (ow3 hw) (ow17 hw) (by decide) (rm2_3 l Z a0 hw [] a3_ (1 : Int32) (0 : Int32) h134 n0 Zs134 F146 F145) e134 (W := 0) (by decide) (by decide) (by decide) (by decide) F145 (pc := 136) (ls := #[.val (.int xk), .val (.int xa), .val (.int xb), .val (.ref b1), .val (.ref b74), .val (.int (3 : Int32)), .val (.int (1 : Int32)), .val (.int (0 : Int32)), .val (.int (2 : Int32)), .val (.int (0 : Int32))]) (stk := [(.int (0 : Int32)), (.int (1 : Int32)), (.ref a3_)]) (by rw [hml]; rfl) (argsL := [(.int (1 : Int32)), (.int (0 : Int32))]) (rest := []) (lenOf pd1 rfl) rfl rfl (Nat.le_of_eq rfl) (hb hby at_136)
        obtain ⟨rfl, Nq220, e220⟩ := hQ220
        have N220 := Fr.app N134 Nq220
        refine OGo.st st220 ?_
        show OGo p.tables e below Φ (T220.setTop (mkF m 139 #[.val (.int xk), .val (.int xa), .val (.int xb), .val (.ref b1), .val (.ref b74), .val (.int (3 : Int32)), .val (.int (1 : Int32)), .val (.int (0 : Int32)), .val (.int (2 : Int32)), .val (.int (0 : Int32))] [(.int (own_ap3 (1 : Int32) (0 : Int32)))]))
        refine OGo.st (fun _ kz => XS.iload X220.here hx rfl (hb hby at_139) rfl kz) ?_
        show OGo p.tables e below Φ (T220.setTop (mkF m 141 #[.val (.int xk), .val (.int xa), .val (.int xb), .val (.ref b1), .val (.ref b74), .val (.int (3 : Int32)), .val (.int (1 : Int32)), .val (.int (0 : Int32)), .val (.int (2 : Int32)), .val (.int (0 : Int32))] [(.int (0 : Int32)), (.int (own_ap3 (1 : Int32) (0 : Int32)))]))
        by_cases hc221 : (own_ap3 (1 : Int32) (0 : Int32)) = (0 : Int32)
        · refine OGo.st (fun _ kz => XS.icmpNo X220.here hx rfl (hb hby at_141) rfl (XT.ii_ne_f hc221) kz) ?_
          show OGo p.tables e below Φ (T220.setTop (mkF m 144 #[.val (.int xk), .val (.int xa), .val (.int xb), .val (.ref b1), .val (.ref b74), .val (.int (3 : Int32)), .val (.int (1 : Int32)), .val (.int (0 : Int32)), .val (.int (2 : Int32)), .val (.int (0 : Int32))] []))
          refine OGo.st (fun _ kz => XS.iconst X220.here hx rfl (hb hby at_144) kz) ?_
          show OGo p.tables e below Φ (T220.setTop (mkF m 145 #[.val (.int xk), .val (.int xa), .val (.int xb), .val (.ref b1), .val (.ref b74), .val (.int (3 : Int32)), .val (.int (1 : Int32)), .val (.int (0 : Int32)), .val (.int (2 : Int32)), .val (.int (0 : Int32))] [(.int (1 : Int32))]))
          refine OGo.st (fun _ kz => XS.goto X220.here hx rfl (pc0 := 145) (pc' := 149) rfl (hb hby at_145) (by decide) (by decide) kz) ?_
          show OGo p.tables e below Φ (T220.setTop (mkF m 149 #[.val (.int xk), .val (.int xa), .val (.int xb), .val (.ref b1), .val (.ref b74), .val (.int (3 : Int32)), .val (.int (1 : Int32)), .val (.int (0 : Int32)), .val (.int (2 : Int32)), .val (.int (0 : Int32))] [(.int (1 : Int32))]))
          refine OGo.fin X220 hlk (v := (some (.int (1 : Int32)))) (fun h => by rw [hret] at h; cases h) (by decide) (by decide) (fun fs hr => X220.ireturnOut hx hret rfl (by simp) (hb hby at_149) hr) fun U eU hF => hΦ _ _ _ ?_ hF
          rw [eU, e220]
          show Q_rm0 Z xk xa xb a0_ a1_ a2_ a3_ h0 n0 _ _ _
          exact ⟨rfl, N220⟩
        · refine OGo.st (fun _ kz => XS.icmpYes X220.here hx rfl (pc0 := 141) (pc' := 148) rfl (hb hby at_141) rfl (XT.ii_ne_t hc221) (by decide) (by decide) kz) ?_
          show OGo p.tables e below Φ (T220.setTop (mkF m 148 #[.val (.int xk), .val (.int xa), .val (.int xb), .val (.ref b1), .val (.ref b74), .val (.int (3 : Int32)), .val (.int (1 : Int32)), .val (.int (0 : Int32)), .val (.int (2 : Int32)), .val (.int (0 : Int32))] []))
          refine OGo.st (fun _ kz => XS.iconst X220.here hx rfl (hb hby at_148) kz) ?_
          show OGo p.tables e below Φ (T220.setTop (mkF m 149 #[.val (.int xk), .val (.int xa), .val (.int xb), .val (.ref b1), .val (.ref b74), .val (.int (3 : Int32)), .val (.int (1 : Int32)), .val (.int (0 : Int32)), .val (.int (2 : Int32)), .val (.int (0 : Int32))] [(.int (0 : Int32))]))
          exact absurd (by decide) hc221
      · refine OGo.st (fun _ kz => XS.ifNo X134.here hx rfl (hb hby at_75) rfl (XT.i0_eq_f hc217) kz) ?_
        show OGo p.tables e below Φ (T134.setTop (mkF m 78 #[.val (.int xk), .val (.int xa), .val (.int xb), .val (.ref b1), .val (.ref b74), .val (.int (3 : Int32)), .val (.int (1 : Int32)), .unset, .unset, .unset] []))
        refine OGo.st (fun _ kz => XS.iconst X134.here hx rfl (hb hby at_78) kz) ?_
        show OGo p.tables e below Φ (T134.setTop (mkF m 79 #[.val (.int xk), .val (.int xa), .val (.int xb), .val (.ref b1), .val (.ref b74), .val (.int (3 : Int32)), .val (.int (1 : Int32)), .unset, .unset, .unset] [(.int (1 : Int32))]))
        refine OGo.st (fun _ kz => XS.goto X134.here hx rfl (pc0 := 79) (pc' := 83) rfl (hb hby at_79) (by decide) (by decide) kz) ?_
        show OGo p.tables e below Φ (T134.setTop (mkF m 83 #[.val (.int xk), .val (.int xa), .val (.int xb), .val (.ref b1), .val (.ref b74), .val (.int (3 : Int32)), .val (.int (1 : Int32)), .unset, .unset, .unset] [(.int (1 : Int32))]))
        refine OGo.st (fun _ kz => XS.istore X134.here hx rfl (hb hby at_83) rfl (l' := #[.val (.int xk), .val (.int xa), .val (.int xb), .val (.ref b1), .val (.ref b74), .val (.int (3 : Int32)), .val (.int (1 : Int32)), .val (.int (1 : Int32)), .unset, .unset]) rfl kz) ?_
        show OGo p.tables e below Φ (T134.setTop (mkF m 85 #[.val (.int xk), .val (.int xa), .val (.int xb), .val (.ref b1), .val (.ref b74), .val (.int (3 : Int32)), .val (.int (1 : Int32)), .val (.int (1 : Int32)), .unset, .unset] []))
        refine OGo.st (fun _ kz => XS.iload X134.here hx rfl (hb hby at_85) rfl kz) ?_
        show OGo p.tables e below Φ (T134.setTop (mkF m 87 #[.val (.int xk), .val (.int xa), .val (.int xb), .val (.ref b1), .val (.ref b74), .val (.int (3 : Int32)), .val (.int (1 : Int32)), .val (.int (1 : Int32)), .unset, .unset] [(.int (1 : Int32))]))
        refine OGo.st (fun _ kz => XS.ifNo X134.here hx rfl (hb hby at_87) rfl (XT.i0_eq_f (by decide)) kz) ?_
        show OGo p.tables e below Φ (T134.setTop (mkF m 90 #[.val (.int xk), .val (.int xa), .val (.int xb), .val (.ref b1), .val (.ref b74), .val (.int (3 : Int32)), .val (.int (1 : Int32)), .val (.int (1 : Int32)), .unset, .unset] []))
        refine OGo.st (fun _ kz => XS.iconst X134.here hx rfl (hb hby at_90) kz) ?_
        show OGo p.tables e below Φ (T134.setTop (mkF m 91 #[.val (.int xk), .val (.int xa), .val (.int xb), .val (.ref b1), .val (.ref b74), .val (.int (3 : Int32)), .val (.int (1 : Int32)), .val (.int (1 : Int32)), .unset, .unset] [(.int (2 : Int32))]))
        refine OGo.st (fun _ kz => XS.goto X134.here hx rfl (pc0 := 91) (pc' := 95) rfl (hb hby at_91) (by decide) (by decide) kz) ?_
        show OGo p.tables e below Φ (T134.setTop (mkF m 95 #[.val (.int xk), .val (.int xa), .val (.int xb), .val (.ref b1), .val (.ref b74), .val (.int (3 : Int32)), .val (.int (1 : Int32)), .val (.int (1 : Int32)), .unset, .unset] [(.int (2 : Int32))]))
        refine OGo.st (fun _ kz => XS.iload X134.here hx rfl (hb hby at_95) rfl kz) ?_
        show OGo p.tables e below Φ (T134.setTop (mkF m 97 #[.val (.int xk), .val (.int xa), .val (.int xb), .val (.ref b1), .val (.ref b74), .val (.int (3 : Int32)), .val (.int (1 : Int32)), .val (.int (1 : Int32)), .unset, .unset] [(.int (1 : Int32)), (.int (2 : Int32))]))
        refine OGo.st (fun _ kz => XS.ifNo X134.here hx rfl (hb hby at_97) rfl (XT.i0_eq_f (by decide)) kz) ?_
        show OGo p.tables e below Φ (T134.setTop (mkF m 100 #[.val (.int xk), .val (.int xa), .val (.int xb), .val (.ref b1), .val (.ref b74), .val (.int (3 : Int32)), .val (.int (1 : Int32)), .val (.int (1 : Int32)), .unset, .unset] [(.int (2 : Int32))]))
        refine OGo.st (fun _ kz => XS.iconst X134.here hx rfl (hb hby at_100) kz) ?_
        show OGo p.tables e below Φ (T134.setTop (mkF m 101 #[.val (.int xk), .val (.int xa), .val (.int xb), .val (.ref b1), .val (.ref b74), .val (.int (3 : Int32)), .val (.int (1 : Int32)), .val (.int (1 : Int32)), .unset, .unset] [(.int (1 : Int32)), (.int (2 : Int32))]))
        refine OGo.st (fun _ kz => XS.goto X134.here hx rfl (pc0 := 101) (pc' := 105) rfl (hb hby at_101) (by decide) (by decide) kz) ?_
        show OGo p.tables e below Φ (T134.setTop (mkF m 105 #[.val (.int xk), .val (.int xa), .val (.int xb), .val (.ref b1), .val (.ref b74), .val (.int (3 : Int32)), .val (.int (1 : Int32)), .val (.int (1 : Int32)), .unset, .unset] [(.int (1 : Int32)), (.int (2 : Int32))]))
        refine OGo.st (fun _ kz => XS.iadd X134.here hx rfl (hb hby at_105) rfl kz) ?_
        show OGo p.tables e below Φ (T134.setTop (mkF m 106 #[.val (.int xk), .val (.int xa), .val (.int xb), .val (.ref b1), .val (.ref b74), .val (.int (3 : Int32)), .val (.int (1 : Int32)), .val (.int (1 : Int32)), .unset, .unset] [(.int (3 : Int32))]))
        refine OGo.st (fun _ kz => XS.istore X134.here hx rfl (hb hby at_106) rfl (l' := #[.val (.int xk), .val (.int xa), .val (.int xb), .val (.ref b1), .val (.ref b74), .val (.int (3 : Int32)), .val (.int (1 : Int32)), .val (.int (1 : Int32)), .val (.int (3 : Int32)), .unset]) rfl kz) ?_
        show OGo p.tables e below Φ (T134.setTop (mkF m 108 #[.val (.int xk), .val (.int xa), .val (.int xb), .val (.ref b1), .val (.ref b74), .val (.int (3 : Int32)), .val (.int (1 : Int32)), .val (.int (1 : Int32)), .val (.int (3 : Int32)), .unset] []))
        refine OGo.st (fun _ kz => XS.aload X134.here hx rfl (hb hby at_108) rfl rfl kz) ?_
        show OGo p.tables e below Φ (T134.setTop (mkF m 110 #[.val (.int xk), .val (.int xa), .val (.int xb), .val (.ref b1), .val (.ref b74), .val (.int (3 : Int32)), .val (.int (1 : Int32)), .val (.int (1 : Int32)), .val (.int (3 : Int32)), .unset] [(.ref b74)]))
        refine OGo.st (fun _ kz => XS.iload X134.here hx rfl (hb hby at_110) rfl kz) ?_
        show OGo p.tables e below Φ (T134.setTop (mkF m 112 #[.val (.int xk), .val (.int xa), .val (.int xb), .val (.ref b1), .val (.ref b74), .val (.int (3 : Int32)), .val (.int (1 : Int32)), .val (.int (1 : Int32)), .val (.int (3 : Int32)), .unset] [(.int (3 : Int32)), (.ref b74)]))
        obtain ⟨cl222, Aq222, -, S222, M222, H222, -⟩ := id V134
        have in222 : ¬ ((3 : Int32) < 0 ∨ cl222.slots.size ≤ (3 : Int32).toNatClampNeg) := inb_of S222 ⟨by decide, by decide⟩
        have at222 : cl222.slots[(3 : Int32).toNatClampNeg]? = some (.int (9 : Int32)) := H222.at in222 rfl
        refine OGo.st (fun _ kz => X134.iaload hx (by rw [e134]; exact Aq222.1) (State.isArrayOf_alike hZ.alike Aq222.2.1) Aq222.2.2 in222 at222 (g := (mkF m 112 #[.val (.int xk), .val (.int xa), .val (.int xb), .val (.ref b1), .val (.ref b74), .val (.int (3 : Int32)), .val (.int (1 : Int32)), .val (.int (1 : Int32)), .val (.int (3 : Int32)), .unset] [(.int (3 : Int32)), (.ref b74)])) rfl rfl (hb hby at_112) _ kz) ?_
        show OGo p.tables e below Φ (T134.setTop (mkF m 113 #[.val (.int xk), .val (.int xa), .val (.int xb), .val (.ref b1), .val (.ref b74), .val (.int (3 : Int32)), .val (.int (1 : Int32)), .val (.int (1 : Int32)), .val (.int (3 : Int32)), .unset] [(.int (9 : Int32))]))
        refine OGo.st (fun _ kz => XS.iload X134.here hx rfl (hb hby at_113) rfl kz) ?_
        show OGo p.tables e below Φ (T134.setTop (mkF m 115 #[.val (.int xk), .val (.int xa), .val (.int xb), .val (.ref b1), .val (.ref b74), .val (.int (3 : Int32)), .val (.int (1 : Int32)), .val (.int (1 : Int32)), .val (.int (3 : Int32)), .unset] [(.int (3 : Int32)), (.int (9 : Int32))]))
        refine OGo.st (fun _ kz => XT.ishr X134.here hx rfl (hb hby at_115) rfl kz) ?_
        show OGo p.tables e below Φ (T134.setTop (mkF m 116 #[.val (.int xk), .val (.int xa), .val (.int xb), .val (.ref b1), .val (.ref b74), .val (.int (3 : Int32)), .val (.int (1 : Int32)), .val (.int (1 : Int32)), .val (.int (3 : Int32)), .unset] [(.int (1 : Int32))]))
        refine OGo.st (fun _ kz => XS.iconst X134.here hx rfl (hb hby at_116) kz) ?_
        show OGo p.tables e below Φ (T134.setTop (mkF m 117 #[.val (.int xk), .val (.int xa), .val (.int xb), .val (.ref b1), .val (.ref b74), .val (.int (3 : Int32)), .val (.int (1 : Int32)), .val (.int (1 : Int32)), .val (.int (3 : Int32)), .unset] [(.int (1 : Int32)), (.int (1 : Int32))]))
        refine OGo.st (fun _ kz => XS.iand X134.here hx rfl (hb hby at_117) rfl kz) ?_
        show OGo p.tables e below Φ (T134.setTop (mkF m 118 #[.val (.int xk), .val (.int xa), .val (.int xb), .val (.ref b1), .val (.ref b74), .val (.int (3 : Int32)), .val (.int (1 : Int32)), .val (.int (1 : Int32)), .val (.int (3 : Int32)), .unset] [(.int (1 : Int32))]))
        refine OGo.st (fun _ kz => XS.ifNo X134.here hx rfl (hb hby at_118) rfl (XT.i0_eq_f (by decide)) kz) ?_
        show OGo p.tables e below Φ (T134.setTop (mkF m 121 #[.val (.int xk), .val (.int xa), .val (.int xb), .val (.ref b1), .val (.ref b74), .val (.int (3 : Int32)), .val (.int (1 : Int32)), .val (.int (1 : Int32)), .val (.int (3 : Int32)), .unset] []))
        refine OGo.st (fun _ kz => XS.iconst X134.here hx rfl (hb hby at_121) kz) ?_
        show OGo p.tables e below Φ (T134.setTop (mkF m 122 #[.val (.int xk), .val (.int xa), .val (.int xb), .val (.ref b1), .val (.ref b74), .val (.int (3 : Int32)), .val (.int (1 : Int32)), .val (.int (1 : Int32)), .val (.int (3 : Int32)), .unset] [(.int (1 : Int32))]))
        refine OGo.st (fun _ kz => XS.goto X134.here hx rfl (pc0 := 122) (pc' := 126) rfl (hb hby at_122) (by decide) (by decide) kz) ?_
        show OGo p.tables e below Φ (T134.setTop (mkF m 126 #[.val (.int xk), .val (.int xa), .val (.int xb), .val (.ref b1), .val (.ref b74), .val (.int (3 : Int32)), .val (.int (1 : Int32)), .val (.int (1 : Int32)), .val (.int (3 : Int32)), .unset] [(.int (1 : Int32))]))
        refine OGo.st (fun _ kz => XS.istore X134.here hx rfl (hb hby at_126) rfl (l' := #[.val (.int xk), .val (.int xa), .val (.int xb), .val (.ref b1), .val (.ref b74), .val (.int (3 : Int32)), .val (.int (1 : Int32)), .val (.int (1 : Int32)), .val (.int (3 : Int32)), .val (.int (1 : Int32))]) rfl kz) ?_
        show OGo p.tables e below Φ (T134.setTop (mkF m 128 #[.val (.int xk), .val (.int xa), .val (.int xb), .val (.ref b1), .val (.ref b74), .val (.int (3 : Int32)), .val (.int (1 : Int32)), .val (.int (1 : Int32)), .val (.int (3 : Int32)), .val (.int (1 : Int32))] []))
        refine OGo.st (fun _ kz => XS.aloadN X134.here hx rfl (hb hby at_128) rfl rfl kz) ?_
        show OGo p.tables e below Φ (T134.setTop (mkF m 129 #[.val (.int xk), .val (.int xa), .val (.int xb), .val (.ref b1), .val (.ref b74), .val (.int (3 : Int32)), .val (.int (1 : Int32)), .val (.int (1 : Int32)), .val (.int (3 : Int32)), .val (.int (1 : Int32))] [(.ref b1)]))
        refine OGo.st (fun _ kz => XS.iload X134.here hx rfl (hb hby at_129) rfl kz) ?_
        show OGo p.tables e below Φ (T134.setTop (mkF m 131 #[.val (.int xk), .val (.int xa), .val (.int xb), .val (.ref b1), .val (.ref b74), .val (.int (3 : Int32)), .val (.int (1 : Int32)), .val (.int (1 : Int32)), .val (.int (3 : Int32)), .val (.int (1 : Int32))] [(.int (3 : Int32)), (.ref b1)]))
        obtain ⟨cl223, Aq223, -, S223, M223, H223, -⟩ := id F148
        have in223 : ¬ ((3 : Int32) < 0 ∨ cl223.slots.size ≤ (3 : Int32).toNatClampNeg) := inb_of S223 ⟨by decide, by decide⟩
        have at223 : cl223.slots[(3 : Int32).toNatClampNeg]? = some (.ref a3_) := H223.at in223 rfl
        refine OGo.st (fun _ kz => X134.aaload hx (by rw [e134]; exact Aq223.1) (State.isArrayOf_alike hZ.alike Aq223.2.1) rfl Aq223.2.2 in223 at223 (g := (mkF m 131 #[.val (.int xk), .val (.int xa), .val (.int xb), .val (.ref b1), .val (.ref b74), .val (.int (3 : Int32)), .val (.int (1 : Int32)), .val (.int (1 : Int32)), .val (.int (3 : Int32)), .val (.int (1 : Int32))] [(.int (3 : Int32)), (.ref b1)])) rfl rfl (hb hby at_131) _ kz) ?_
        show OGo p.tables e below Φ (T134.setTop (mkF m 132 #[.val (.int xk), .val (.int xa), .val (.int xb), .val (.ref b1), .val (.ref b74), .val (.int (3 : Int32)), .val (.int (1 : Int32)), .val (.int (1 : Int32)), .val (.int (3 : Int32)), .val (.int (1 : Int32))] [(.ref a3_)]))
        refine OGo.st (fun _ kz => XS.iload X134.here hx rfl (hb hby at_132) rfl kz) ?_
        show OGo p.tables e below Φ (T134.setTop (mkF m 134 #[.val (.int xk), .val (.int xa), .val (.int xb), .val (.ref b1), .val (.ref b74), .val (.int (3 : Int32)), .val (.int (1 : Int32)), .val (.int (1 : Int32)), .val (.int (3 : Int32)), .val (.int (1 : Int32))] [(.int (1 : Int32)), (.ref a3_)]))
        refine OGo.st (fun _ kz => XS.iload X134.here hx rfl (hb hby at_134) rfl kz) ?_
        show OGo p.tables e below Φ (T134.setTop (mkF m 136 #[.val (.int xk), .val (.int xa), .val (.int xb), .val (.ref b1), .val (.ref b74), .val (.int (3 : Int32)), .val (.int (1 : Int32)), .val (.int (1 : Int32)), .val (.int (3 : Int32)), .val (.int (1 : Int32))] [(.int (1 : Int32)), (.int (1 : Int32)), (.ref a3_)]))
        obtain ⟨_, T224, L224, X224, hQ224, st224⟩ := own_callVi X134 hx hZ hown (ow13 hw) (ow14 hw) (notFace_of_selects (args := #[]) (mvT hZ (ow16 hw))) (ow16 hw) (ow15 hw) (ow3 hw) (ow17 hw) (by decide) (rm2_3 l Z a0 hw [] a3_ (1 : Int32) (1 : Int32) h134 n0 Zs134 F146 F145) e134 (W := 0) (by decide) (by decide) (by decide) (by decide) F145 (pc := 136) (ls := #[.val (.int xk), .val (.int xa), .val (.int xb), .val (.ref b1), .val (.ref b74), .val (.int (3 : Int32)), .val (.int (1 : Int32)), .val (.int (1 : Int32)), .val (.int (3 : Int32)), .val (.int (1 : Int32))]) (stk := [(.int (1 : Int32)), (.int (1 : Int32)), (.ref a3_)]) (by rw [hml]; rfl) (argsL := [(.int (1 : Int32)), (.int (1 : Int32))]) (rest := []) (lenOf pd1 rfl) rfl rfl (Nat.le_of_eq rfl) (hb hby at_136)
        obtain ⟨rfl, Nq224, e224⟩ := hQ224
        have N224 := Fr.app N134 Nq224
        refine OGo.st st224 ?_
        show OGo p.tables e below Φ (T224.setTop (mkF m 139 #[.val (.int xk), .val (.int xa), .val (.int xb), .val (.ref b1), .val (.ref b74), .val (.int (3 : Int32)), .val (.int (1 : Int32)), .val (.int (1 : Int32)), .val (.int (3 : Int32)), .val (.int (1 : Int32))] [(.int (own_ap3 (1 : Int32) (1 : Int32)))]))
        refine OGo.st (fun _ kz => XS.iload X224.here hx rfl (hb hby at_139) rfl kz) ?_
        show OGo p.tables e below Φ (T224.setTop (mkF m 141 #[.val (.int xk), .val (.int xa), .val (.int xb), .val (.ref b1), .val (.ref b74), .val (.int (3 : Int32)), .val (.int (1 : Int32)), .val (.int (1 : Int32)), .val (.int (3 : Int32)), .val (.int (1 : Int32))] [(.int (1 : Int32)), (.int (own_ap3 (1 : Int32) (1 : Int32)))]))
        by_cases hc225 : (own_ap3 (1 : Int32) (1 : Int32)) = (1 : Int32)
        · refine OGo.st (fun _ kz => XS.icmpNo X224.here hx rfl (hb hby at_141) rfl (XT.ii_ne_f hc225) kz) ?_
          show OGo p.tables e below Φ (T224.setTop (mkF m 144 #[.val (.int xk), .val (.int xa), .val (.int xb), .val (.ref b1), .val (.ref b74), .val (.int (3 : Int32)), .val (.int (1 : Int32)), .val (.int (1 : Int32)), .val (.int (3 : Int32)), .val (.int (1 : Int32))] []))
          refine OGo.st (fun _ kz => XS.iconst X224.here hx rfl (hb hby at_144) kz) ?_
          show OGo p.tables e below Φ (T224.setTop (mkF m 145 #[.val (.int xk), .val (.int xa), .val (.int xb), .val (.ref b1), .val (.ref b74), .val (.int (3 : Int32)), .val (.int (1 : Int32)), .val (.int (1 : Int32)), .val (.int (3 : Int32)), .val (.int (1 : Int32))] [(.int (1 : Int32))]))
          refine OGo.st (fun _ kz => XS.goto X224.here hx rfl (pc0 := 145) (pc' := 149) rfl (hb hby at_145) (by decide) (by decide) kz) ?_
          show OGo p.tables e below Φ (T224.setTop (mkF m 149 #[.val (.int xk), .val (.int xa), .val (.int xb), .val (.ref b1), .val (.ref b74), .val (.int (3 : Int32)), .val (.int (1 : Int32)), .val (.int (1 : Int32)), .val (.int (3 : Int32)), .val (.int (1 : Int32))] [(.int (1 : Int32))]))
          refine OGo.fin X224 hlk (v := (some (.int (1 : Int32)))) (fun h => by rw [hret] at h; cases h) (by decide) (by decide) (fun fs hr => X224.ireturnOut hx hret rfl (by simp) (hb hby at_149) hr) fun U eU hF => hΦ _ _ _ ?_ hF
          rw [eU, e224]
          show Q_rm0 Z xk xa xb a0_ a1_ a2_ a3_ h0 n0 _ _ _
          exact ⟨rfl, N224⟩
        · refine OGo.st (fun _ kz => XS.icmpYes X224.here hx rfl (pc0 := 141) (pc' := 148) rfl (hb hby at_141) rfl (XT.ii_ne_t hc225) (by decide) (by decide) kz) ?_
          show OGo p.tables e below Φ (T224.setTop (mkF m 148 #[.val (.int xk), .val (.int xa), .val (.int xb), .val (.ref b1), .val (.ref b74), .val (.int (3 : Int32)), .val (.int (1 : Int32)), .val (.int (1 : Int32)), .val (.int (3 : Int32)), .val (.int (1 : Int32))] []))
          refine OGo.st (fun _ kz => XS.iconst X224.here hx rfl (hb hby at_148) kz) ?_
          show OGo p.tables e below Φ (T224.setTop (mkF m 149 #[.val (.int xk), .val (.int xa), .val (.int xb), .val (.ref b1), .val (.ref b74), .val (.int (3 : Int32)), .val (.int (1 : Int32)), .val (.int (1 : Int32)), .val (.int (3 : Int32)), .val (.int (1 : Int32))] [(.int (0 : Int32))]))
          exact absurd (by decide) hc225

set_option maxRecDepth 65536 in
set_option maxHeartbeats 40000000 in
theorem comes_1 {Post : Tables → Env → Array Value → State → Outcome → State → Prop} (hpost : ∀ tb e args s v u, (limb_1_1.after args s (.returned v) u = true ∧ limb_1_2.after args s (.returned v) u = true ∧ True) → FrameEnd s (.returned v) u (Jvm.fieldLocs frame_1_writes args s ++ Jvm.arrayLocs frame_1_arrays args s ++ Jvm.staticLocs frame_1_statics s) 16 128 → Post tb e args s (.returned v) u) :
    ArmFor flags0 classFile x code maxLocals ret World_1 tables_1 room_1 Calls_1 rest_1 Pre_1 Post := by
  intro l hfl _ _ p e ha hc hk s m args below hf hA hF happ hP
  obtain ⟨hcalls, hrest, hpre⟩ := hP
  obtain ⟨-, -, -, hnamed, -, -, -, hat⟩ := (Spec.applies_iff hf).mp happ
  obtain ⟨hg, hn⟩ := and_e (Cond.before_iff.mp (show (Jvm.Cond.and given_1 narrow_1).before args s = true from hpre))
  obtain ⟨g0, r0⟩ := and_e hg
  obtain ⟨k0, r1⟩ := and_e r0
  obtain ⟨k1, r2⟩ := and_e r1
  have k2 := r2
  obtain ⟨w0, w1, w2, rfl⟩ : ∃ w0 w1 w2 : Value, args = #[w0, w1, w2] := by
    have hs : args.size = 3 := by simpa [Cond.value, given_1] using g0
    obtain ⟨L⟩ := args
    match L, hs with
    | [w0, w1, w2], _ => exact ⟨w0, w1, w2, rfl⟩
  have hw := fun d (hd : d ∈ tables_1) => atoms_spec (ws := Jvm.Cond.code x code maxLocals ret :: tables_1) hat d (List.mem_cons_of_mem _ hd)
  have hfit : Fit s := fun {y c} hc i hi => by
    obtain ⟨ha, rfl⟩ := Array.getElem?_eq_some_iff.mp hc
    have q := List.all_eq_true.mp ((Array.all_eq_true_iff_forall_mem.mp hF) _ (Array.getElem_mem ha)) i (List.mem_range.mpr hi)
    simpa [Array.getElem?_eq_getElem hi] using q
  obtain ⟨i0, ei0⟩ := is_v k0
  obtain rfl : w0 = (.int i0) := Option.some.inj ei0
  obtain ⟨i1, ei1⟩ := is_v k1
  obtain rfl : w1 = (.int i1) := Option.some.inj ei1
  obtain ⟨i2, ei2⟩ := is_v k2
  obtain rfl : w2 = (.int i2) := Option.some.inj ei2
  obtain ⟨m0, hn0⟩ := and_e hn
  obtain ⟨m1, hn1⟩ := and_e hn0
  obtain ⟨m2, hn2⟩ := and_e hn1
  obtain ⟨m3, hn3⟩ := and_e hn2
  obtain ⟨m4, hn4⟩ := and_e hn3
  obtain ⟨m5, hn5⟩ := and_e hn4
  obtain ⟨m6, hn6⟩ := and_e hn5
  have m7 := hn6
  obtain ⟨s_FormulaConnectiveOp_AND, v_FormulaConnectiveOp_AND⟩ := exa_v m0
  have E_FormulaConnectiveOp_AND := Exa.start v_FormulaConnectiveOp_AND m0
  have S_FormulaConnectiveOp_AND := Sta.start v_FormulaConnectiveOp_AND (Or.inr ⟨(ow3 hw), (ow4 hw)⟩)
  obtain ⟨s_FormulaConnectiveOp_OR, v_FormulaConnectiveOp_OR⟩ := exa_v m1
  have E_FormulaConnectiveOp_OR := Exa.start v_FormulaConnectiveOp_OR m1
  have S_FormulaConnectiveOp_OR := Sta.start v_FormulaConnectiveOp_OR (Or.inr ⟨(ow3 hw), (ow7 hw)⟩)
  obtain ⟨s_FormulaConnectiveOp_IMPLIES, v_FormulaConnectiveOp_IMPLIES⟩ := exa_v m2
  have E_FormulaConnectiveOp_IMPLIES := Exa.start v_FormulaConnectiveOp_IMPLIES m2
  have S_FormulaConnectiveOp_IMPLIES := Sta.start v_FormulaConnectiveOp_IMPLIES (Or.inr ⟨(ow3 hw), (ow9 hw)⟩)
  obtain ⟨s_FormulaConnectiveOp_IFF, v_FormulaConnectiveOp_IFF⟩ := exa_v m3
  have E_FormulaConnectiveOp_IFF := Exa.start v_FormulaConnectiveOp_IFF m3
  have S_FormulaConnectiveOp_IFF := Sta.start v_FormulaConnectiveOp_IFF (Or.inr ⟨(ow3 hw), (ow11 hw)⟩)
  have F_FormulaConnectiveOp_AND_ordinal := own_fldI v_FormulaConnectiveOp_AND m4
  have F_FormulaConnectiveOp_OR_ordinal := own_fldI v_FormulaConnectiveOp_OR m5
  have F_FormulaConnectiveOp_IFF_ordinal := own_fldI v_FormulaConnectiveOp_IFF m6
  have F_FormulaConnectiveOp_IMPLIES_ordinal := own_fldI v_FormulaConnectiveOp_IMPLIES m7
  obtain ⟨n, o, h1, h2, h3, _, L, rfl, ⟨rfl, N⟩, hq⟩ := rm0 l s _ hw tables_1 i0 i1 i2 s_FormulaConnectiveOp_AND s_FormulaConnectiveOp_OR s_FormulaConnectiveOp_IMPLIES s_FormulaConnectiveOp_IFF s.heap s.heap.size (Nat.le_refl _) S_FormulaConnectiveOp_AND E_FormulaConnectiveOp_AND F_FormulaConnectiveOp_AND_ordinal S_FormulaConnectiveOp_OR E_FormulaConnectiveOp_OR F_FormulaConnectiveOp_OR_ordinal S_FormulaConnectiveOp_IMPLIES E_FormulaConnectiveOp_IMPLIES F_FormulaConnectiveOp_IMPLIES_ordinal S_FormulaConnectiveOp_IFF E_FormulaConnectiveOp_IFF F_FormulaConnectiveOp_IFF_ordinal p e ha hc hk s m _ below hf ((Spec.applies_iff_loose hf).mp happ).1 ⟨rfl, State.Warmed39.refl s, rfl⟩ trivial
  refine ⟨n, _, h1, h2, h3, hpost _ _ _ _ _ _ ⟨Cond.after_iff.mpr rfl, Cond.after_iff.mpr (eq_i res_at (Term.int_eval (1)) rfl), trivial⟩ ⟨hq.1, hq.2.1, (hq.2.2.sift fun y hy => Or.inr (N y hy)).mono (by decide) (by decide)⟩⟩
theorem main_1_1 : Claimed_1_1 := comes_1 fun _ _ _ _ _ _ h hF => ⟨h.1, hF⟩
theorem main_1_2 : Claimed_1_2 := comes_1 fun _ _ _ _ _ _ h hF => ⟨h.2.1, hF⟩
end Jvm.Pilot.@@N@@
namespace Jvm.Pilot.@@N@@
open Jvm Jvm.ClassFile Sem Op Lib Jvm.Free Jvm.Stand Jvm.Pilot.@@N@@.Jvm.D
/-! MADE BY PROGRAM (witnessworld.py) out of the Statement's table words and the real class files: 13 classes; the members and pool entries that the words name. The judged class is class 1, her method 1. -/
namespace start1
open Jvm.ClassFile
def u (s : String) : CpInfo := .utf8 (stringToUtf16 s)
/-- a pool by its gaps: so many unusable entries, then the entry; so many at the end -/
def gap : Nat → List CpInfo → List CpInfo
  | 0, r => r
  | n + 1, r => .unusable :: gap n r
def poolList (es : List (Nat × CpInfo)) (last : Nat) : List CpInfo := es.foldr (fun e r => gap e.1 (e.2 :: r)) (gap last [])
def pool (es : List (Nat × CpInfo)) (last : Nat) : Array CpInfo := ⟨poolList es last⟩
def fileOf (pool : Array CpInfo) (this : Nat) (attrs : Array Attribute := #[]) (ms : Array MethodInfo := #[]) (fl : Nat := 33) (sup : Nat := 0) (ifs : Array Nat := #[]) (fds : Array FieldInfo := #[]) : ClassFile where
  minorVersion := 0
  majorVersion := 65
  constantPool := pool
  accessFlags := fl
  thisClass := this
  superClass := sup
  interfaces := ifs
  fields := fds
  methods := ms
  attributes := attrs
def plain (name : String) (sup : Option ClassId) : Class where
  name := name
  kind := .ordinary
  loader := none
  accessFlags := 33
  super := sup
  interfaces := #[]
  cf := none
  fields := #[]
  methods := #[]
  instanceTypes := #[]
  staticTypes := #[]
  resolved := #[]
  callSites := []
  init := .initialized
  statics := none
  mirror := none

def pool0 : Array CpInfo := pool [(5, u "<init>"), (0, u "()V"), (1, .class_ 10), (1, u "java/lang/Object")] 113

def k0m0 : Method := { name := "<init>", desc := "()V", sig := { parameters := [], returnType := none }, accessFlags := 1, code := none }
/-- java/lang/Object -/
def k0 : Class := { plain "java/lang/Object" none with
  accessFlags := 33
  interfaces := #[]
  cf := some (fileOf pool0 8 #[] #[{ accessFlags := 1, nameIndex := 5, descriptorIndex := 6, attributes := #[] }] 33 0 #[] #[])
  fields := #[]
  methods := #[k0m0]
  instanceTypes := #[]
  staticTypes := #[]
  resolved := Array.replicate 124 none
  statics := none }

def pool1 : Array CpInfo := pool [(2, .class_ 4), (1, u "java/lang/Object"), (0, u "<init>"), (0, u "()V"), (0, .class_ 8), (0, u "com/example/bowerbird/bowerbird/model/Formula$Connective$Op"), (0, .fieldref 7 10), (0, .nameAndType 11 12), (0, u "AND"), (0, u "Lcom/example/bowerbird/bowerbird/model/Formula$Connective$Op;"), (0, .fieldref 7 14), (0, .nameAndType 15 12), (0, u "OR"), (0, .fieldref 7 17), (0, .nameAndType 18 12), (0, u "IMPLIES"), (0, .fieldref 7 20), (0, .nameAndType 21 12), (0, u "IFF"), (0, .methodref 7 23), (0, .nameAndType 24 25), (0, u "apply"), (0, u "(ZZ)Z"), (0, .class_ 27), (0, u "com/example/bowerbird/bowerbird/model/OpApplyPinLaw"), (2, u "law"), (0, u "(III)Z")] 14

def k1m0 : Method := { name := "<init>", desc := "()V", sig := { parameters := [], returnType := none }, accessFlags := 2, code := none }
def k1c1 : Code := { maxStack := 4, maxLocals := 10, code := code, exceptionTable := #[], attributes := #[] }
def k1m1 : Method := { name := "law", desc := "(III)Z", sig := { parameters := [.int, .int, .int], returnType := some .boolean }, accessFlags := 9, code := some k1c1 }
/-- com/example/bowerbird/bowerbird/model/OpApplyPinLaw -/
def k1 : Class := { plain "com/example/bowerbird/bowerbird/model/OpApplyPinLaw" (some 0) with
  accessFlags := 49
  interfaces := #[]
  cf := some (fileOf pool1 26 #[] #[{ accessFlags := 2, nameIndex := 5, descriptorIndex := 6, attributes := #[] }, { accessFlags := 9, nameIndex := 30, descriptorIndex := 31, attributes := #[] }] 49 2 #[] #[])
  fields := #[]
  methods := #[k1m0, k1m1]
  instanceTypes := #[]
  staticTypes := #[]
  resolved := Array.replicate 46 none
  statics := none }

def pool2 : Array CpInfo := pool [(1, .class_ 2), (0, u "java/lang/constant/Constable"), (0, .class_ 4), (0, u "java/lang/Object")] 6

/-- java/lang/constant/Constable -/
def k2 : Class := { plain "java/lang/constant/Constable" (some 0) with
  accessFlags := 1537
  interfaces := #[]
  cf := some (fileOf pool2 1 #[] #[] 1537 3 #[] #[])
  fields := #[]
  methods := #[]
  instanceTypes := #[]
  staticTypes := #[]
  resolved := Array.replicate 11 none
  statics := none }

def pool3 : Array CpInfo := pool [(1, .class_ 2), (0, u "java/lang/Comparable"), (0, .class_ 4), (0, u "java/lang/Object")] 7

/-- java/lang/Comparable -/
def k3 : Class := { plain "java/lang/Comparable" (some 0) with
  accessFlags := 1537
  interfaces := #[]
  cf := some (fileOf pool3 1 #[] #[] 1537 3 #[] #[])
  fields := #[]
  methods := #[]
  instanceTypes := #[]
  staticTypes := #[]
  resolved := Array.replicate 12 none
  statics := none }

def pool4 : Array CpInfo := pool [(1, .class_ 2), (0, u "java/io/Serializable"), (0, .class_ 4), (0, u "java/lang/Object")] 2

/-- java/io/Serializable -/
def k4 : Class := { plain "java/io/Serializable" (some 0) with
  accessFlags := 1537
  interfaces := #[]
  cf := some (fileOf pool4 1 #[] #[] 1537 3 #[] #[])
  fields := #[]
  methods := #[]
  instanceTypes := #[]
  staticTypes := #[]
  resolved := Array.replicate 7 none
  statics := none }

def pool5 : Array CpInfo := pool [(2, .class_ 4), (1, u "java/lang/Enum"), (0, u "name"), (0, u "Ljava/lang/String;"), (0, .fieldref 2 8), (0, .nameAndType 9 10), (0, u "ordinal"), (0, u "I"), (1, .class_ 14), (1, u "java/lang/Object"), (4, u "hash"), (86, .class_ 108), (1, u "java/lang/Enum$EnumDesc"), (2, .class_ 112), (0, u "java/lang/constant/Constable"), (0, .class_ 114), (0, u "java/lang/Comparable"), (0, .class_ 116), (0, u "java/io/Serializable"), (9, u "()I")] 77

def k5c0 : Code := { maxStack := 1, maxLocals := 1, code := jdk_37_method_2_code, exceptionTable := #[], attributes := #[] }
def k5m0 : Method := { name := "ordinal", desc := "()I", sig := { parameters := [], returnType := some .int }, accessFlags := 17, code := some k5c0 }
/-- java/lang/Enum -/
def k5 : Class := { plain "java/lang/Enum" (some 0) with
  accessFlags := 1057
  interfaces := #[2, 3, 4]
  cf := some (fileOf pool5 2 #[.nestMembers #[106]] #[{ accessFlags := 17, nameIndex := 9, descriptorIndex := 126, attributes := #[] }] 1057 12 #[111, 113, 115] #[{ accessFlags := 18, nameIndex := 5, descriptorIndex := 6, attributes := #[] }, { accessFlags := 18, nameIndex := 9, descriptorIndex := 10, attributes := #[] }, { accessFlags := 2, nameIndex := 19, descriptorIndex := 10, attributes := #[] }])
  fields := #[{ name := "name", type := (.object "java/lang/String"), accessFlags := 18, slot := 0, constantValue := 0 }, { name := "ordinal", type := .int, accessFlags := 18, slot := 1, constantValue := 0 }, { name := "hash", type := .int, accessFlags := 2, slot := 2, constantValue := 0 }]
  methods := #[k5m0]
  instanceTypes := #[(.object "java/lang/String"), .int, .int]
  staticTypes := #[]
  resolved := Array.replicate 204 none
  statics := none }

def pool6 : Array CpInfo := pool [(1, .class_ 2), (0, u "com/example/bowerbird/bowerbird/model/Formula$Connective$Op"), (2, u "AND"), (0, u "Lcom/example/bowerbird/bowerbird/model/Formula$Connective$Op;"), (2, u "OR"), (2, u "IMPLIES"), (2, u "IFF"), (2, u "$VALUES"), (0, u "[Lcom/example/bowerbird/bowerbird/model/Formula$Connective$Op;"), (6, .class_ 28), (1, u "java/lang/Enum"), (6, .methodref 1 36), (0, .nameAndType 37 38), (0, u "ordinal"), (0, u "()I"), (21, u "apply"), (0, u "(ZZ)Z"), (6, .class_ 69), (0, u "com/example/bowerbird/bowerbird/model/Formula")] 5

def k6c0 : Code := { maxStack := 4, maxLocals := 3, code := prog_23_method_4_code, exceptionTable := #[], attributes := #[] }
def k6m0 : Method := { name := "apply", desc := "(ZZ)Z", sig := { parameters := [.boolean, .boolean], returnType := some .boolean }, accessFlags := 1, code := some k6c0 }
/-- com/example/bowerbird/bowerbird/model/Formula$Connective$Op -/
def k6 : Class := { plain "com/example/bowerbird/bowerbird/model/Formula$Connective$Op" (some 5) with
  accessFlags := 16433
  interfaces := #[]
  cf := some (fileOf pool6 1 #[.nestHost 68] #[{ accessFlags := 1, nameIndex := 60, descriptorIndex := 61, attributes := #[] }] 16433 26 #[] #[{ accessFlags := 16409, nameIndex := 5, descriptorIndex := 6, attributes := #[] }, { accessFlags := 16409, nameIndex := 9, descriptorIndex := 6, attributes := #[] }, { accessFlags := 16409, nameIndex := 12, descriptorIndex := 6, attributes := #[] }, { accessFlags := 16409, nameIndex := 15, descriptorIndex := 6, attributes := #[] }, { accessFlags := 4122, nameIndex := 18, descriptorIndex := 19, attributes := #[] }])
  fields := #[{ name := "AND", type := (.object "com/example/bowerbird/bowerbird/model/Formula$Connective$Op"), accessFlags := 16409, slot := 0, constantValue := 0 }, { name := "OR", type := (.object "com/example/bowerbird/bowerbird/model/Formula$Connective$Op"), accessFlags := 16409, slot := 1, constantValue := 0 }, { name := "IMPLIES", type := (.object "com/example/bowerbird/bowerbird/model/Formula$Connective$Op"), accessFlags := 16409, slot := 2, constantValue := 0 }, { name := "IFF", type := (.object "com/example/bowerbird/bowerbird/model/Formula$Connective$Op"), accessFlags := 16409, slot := 3, constantValue := 0 }, { name := "$VALUES", type := (.array (.object "com/example/bowerbird/bowerbird/model/Formula$Connective$Op")), accessFlags := 4122, slot := 4, constantValue := 0 }]
  methods := #[k6m0]
  instanceTypes := #[(.object "java/lang/String"), .int, .int]
  staticTypes := #[(.object "com/example/bowerbird/bowerbird/model/Formula$Connective$Op"), (.object "com/example/bowerbird/bowerbird/model/Formula$Connective$Op"), (.object "com/example/bowerbird/bowerbird/model/Formula$Connective$Op"), (.object "com/example/bowerbird/bowerbird/model/Formula$Connective$Op"), (.array (.object "com/example/bowerbird/bowerbird/model/Formula$Connective$Op"))]
  resolved := Array.replicate 75 none
  statics := some 0 }

def pool7 : Array CpInfo := pool [(1, u "java/lang/Cloneable"), (0, .class_ 1), (0, u "java/lang/Object"), (0, .class_ 3)] 3

/-- java/lang/Cloneable -/
def k7 : Class := { plain "java/lang/Cloneable" (some 0) with
  accessFlags := 1537
  interfaces := #[]
  cf := some (fileOf pool7 2 #[] #[] 1537 4 #[] #[])
  fields := #[]
  methods := #[]
  instanceTypes := #[]
  staticTypes := #[]
  resolved := Array.replicate 8 none
  statics := none }

/-- the primitive byte -/
def k8 : Class := { plain "byte" none with kind := .primitive 'B', accessFlags := 0x411 }
/-- [B -/
def k9 : Class := { plain "[B" (some 0) with kind := .array 8 .byte, interfaces := #[7, 4], accessFlags := 1041 }

/-- the primitive int -/
def k10 : Class := { plain "int" none with kind := .primitive 'I', accessFlags := 0x411 }
/-- [I -/
def k11 : Class := { plain "[I" (some 0) with kind := .array 10 .int, interfaces := #[7, 4], accessFlags := 1041 }

/-- [Lcom/example/bowerbird/bowerbird/model/Formula$Connective$Op; -/
def k12 : Class := { plain "[Lcom/example/bowerbird/bowerbird/model/Formula$Connective$Op;" (some 0) with kind := .array 6 (.object "com/example/bowerbird/bowerbird/model/Formula$Connective$Op"), interfaces := #[7, 4], accessFlags := 1041 }

def heap : Heap := #[{ cls := 6, slots := #[.ref 1, .ref 2, .ref 3, .ref 4, .null], vm := .statics 6 },
  { cls := 6, slots := #[.null, .int 0, .int 0], vm := .none },
  { cls := 6, slots := #[.null, .int 1, .int 0], vm := .none },
  { cls := 6, slots := #[.null, .int 2, .int 0], vm := .none },
  { cls := 6, slots := #[.null, .int 3, .int 0], vm := .none }]
def classes : Array Class := #[k0, k1, k2, k3, k4, k5, k6, k7, k8, k9, k10, k11, k12]
def interned : List (Array UInt16 × Addr) := []
def slotsUsed : Nat := 17
def theMethod : MethodId := ⟨1, 1⟩
def args0 : Array Value := #[.int 5, .int 5, .int 5]
def aboutOver (below : List Frame) : State where
  vm := { classes := classes, interned := interned.toArray }
  heap := heap
  slotsUsed := slotsUsed
  threads := #[{ frames := .invoking theMethod args0 :: below }]
def below0 : List Frame := [.native { method := ⟨0, 0⟩, args := #[] }]
def about1 : State := aboutOver below0
def p0 : Program := .bare "" "" ""
def e0 : Env := launch0.env 0 0 0
theorem w_frames : about1.frames = Frame.invoking theMethod args0 :: below0 := rfl
set_option maxRecDepth 65536 in
theorem w_args : argsFit about1.vm theMethod args0 = true := by decide +kernel
set_option maxRecDepth 65536 in
theorem w_heap : heapFits about1 = true := by decide +kernel
set_option maxRecDepth 65536 in
theorem w_runnable : about1.curStatus? = some .runnable := by decide +kernel
set_option maxRecDepth 65536 in
theorem w_alone : about1.alone = true := by decide +kernel
set_option maxRecDepth 65536 in
theorem w_named : about1.methodNamed? x = some theMethod := by decide +kernel
set_option maxRecDepth 65536 in
theorem w_hears : about1.hears theMethod below0 = true := by decide +kernel
set_option maxRecDepth 65536 in
theorem w_ripe : about1.ripe theMethod args0 below0 = true := by decide +kernel
theorem w_running : about1.status = .running := rfl
set_option maxRecDepth 65536 in
theorem w_room : about1.hasRoom e0.platform room_1 = true :=
  launch0.hasRoom_least _ room_1 (by decide +kernel) (by decide +kernel) (by decide +kernel) (by decide +kernel) (by decide +kernel) (by decide +kernel)
theorem allAtoms_all (ts : List Jvm.Cond) (a : Array Jvm.Value) (st : Jvm.State) : (allAtoms ts).before a st = ts.all (fun c => c.before a st) := by
  induction ts with
  | nil => rfl
  | cons c t ih =>
    show (Jvm.Cond.and c (allAtoms t)).before a st = _
    rw [Jvm.Cond.before_and, ih, List.all_cons]
def words1 : List Jvm.Cond := Jvm.Cond.code x code maxLocals ret :: tables_1
/-- a 'code' word, met by the world's own term for the bytes: nothing is compared byte by byte -/
theorem code_word {y : MethodName} {bytes : ByteArray} {mx : Nat} {rt : Option FieldType} {a : Array Value} {s : State} {m : MethodId} {meth : Method} {c : Code} (h1 : s.methodNamed? y = some m) (h2 : s.vm.method? m = some meth) (h3 : meth.code = some c) (h4 : c.code = bytes)
    (h5 : (c.maxLocals == mx && c.exceptionTable.isEmpty && decide (c.maxStack ≤ mostOperands) && decide (meth.sig.returnType = rt) && !meth.locks && decide (parseMethodDescriptor y.desc = some meth.sig)) = true) : (Jvm.Cond.code y bytes mx rt).before a s = true := by
  simp only [Bool.and_eq_true, beq_iff_eq, Bool.not_eq_true', decide_eq_true_eq] at h5
  obtain ⟨⟨⟨⟨⟨g1, g2⟩, g3⟩, g4⟩, g5⟩, g6⟩ := h5
  simp [Cond.before, Cond.holds, Cond.value, h1, h2, h3, h4, g1, g2, g3, g4, g5, g6]
def isCode : Jvm.Cond → Bool
  | .code _ _ _ _ => true
  | _ => false
theorem all_split {L : List Jvm.Cond} {P : Jvm.Cond → Bool} (h1 : L.all (fun c => isCode c || P c) = true) (h2 : ∀ c ∈ L.filter isCode, P c = true) : L.all P = true := by
  refine List.all_eq_true.mpr fun c hc => ?_
  have h := List.all_eq_true.mp h1 c hc
  rcases Bool.eq_false_or_eq_true (isCode c) with hi | hi
  · exact h2 c (List.mem_filter.mpr ⟨hc, hi⟩)
  · simpa [hi] using h
set_option maxRecDepth 65536 in
theorem w_c0 : (Jvm.Cond.code x code maxLocals ret).before args0 about1 = true := code_word (m := ⟨1, 1⟩) (meth := k1m1) (c := k1c1) (by decide +kernel) rfl rfl rfl (by decide +kernel)
set_option maxRecDepth 65536 in
theorem w_c1 : (Jvm.Cond.code ({ cls := "com/example/bowerbird/bowerbird/model/Formula$Connective$Op", name := "apply", desc := "(ZZ)Z" } : Jvm.MethodName) prog_23_method_4_code (3 : Nat) (Option.some Jvm.ClassFile.FieldType.boolean)).before args0 about1 = true := code_word (m := ⟨6, 0⟩) (meth := k6m0) (c := k6c0) (by decide +kernel) rfl rfl rfl (by decide +kernel)
set_option maxRecDepth 65536 in
theorem w_c2 : (Jvm.Cond.code ({ cls := "java/lang/Enum", name := "ordinal", desc := "()I" } : Jvm.MethodName) jdk_37_method_2_code (1 : Nat) (Option.some Jvm.ClassFile.FieldType.int)).before args0 about1 = true := code_word (m := ⟨5, 0⟩) (meth := k5m0) (c := k5c0) (by decide +kernel) rfl rfl rfl (by decide +kernel)
def codes1 : List Jvm.Cond := [Jvm.Cond.code x code maxLocals ret, Jvm.Cond.code ({ cls := "com/example/bowerbird/bowerbird/model/Formula$Connective$Op", name := "apply", desc := "(ZZ)Z" } : Jvm.MethodName) prog_23_method_4_code (3 : Nat) (Option.some Jvm.ClassFile.FieldType.boolean), Jvm.Cond.code ({ cls := "java/lang/Enum", name := "ordinal", desc := "()I" } : Jvm.MethodName) jdk_37_method_2_code (1 : Nat) (Option.some Jvm.ClassFile.FieldType.int)]
set_option maxRecDepth 65536 in
theorem codes_eq : words1.filter isCode = codes1 := rfl
theorem w_codes : ∀ c ∈ words1.filter isCode, c.before args0 about1 = true := by
  rw [codes_eq]
  intro c hc
  simp only [codes1, List.mem_cons, List.not_mem_nil, or_false] at hc
  rcases hc with rfl | rfl | rfl
  · exact w_c0
  · exact w_c1
  · exact w_c2
set_option maxRecDepth 65536 in
theorem w_t1 : (words1.take 24).all (fun c => isCode c || c.before args0 about1) = true := by decide +kernel
set_option maxRecDepth 65536 in
theorem w_t2 : (words1.drop 24).all (fun c => isCode c || c.before args0 about1) = true := by decide +kernel
theorem w_tables : (allAtoms (Jvm.Cond.code x code maxLocals ret :: tables_1)).before args0 about1 = true := by
  rw [allAtoms_all]
  show words1.all (fun c => c.before args0 about1) = true
  refine all_split ?_ w_codes
  rw [← List.take_append_drop 24 words1, List.all_append, w_t1, w_t2]
  rfl
set_option maxRecDepth 65536 in
theorem w_case : (Jvm.Cond.and given_1 narrow_1).before args0 about1 = true := by decide +kernel
theorem w_applies : (headSpec (Jvm.Cond.code x code maxLocals ret :: tables_1) room_1).applies x e0.platform about1 = true :=
  (Spec.applies_iff w_frames).mpr ⟨w_running, w_runnable, w_alone, w_named, w_hears, w_ripe, w_room, w_tables⟩
theorem atStart : AtStart classFile x code maxLocals ret World_1 tables_1 room_1 Calls_1 rest_1 Pre_1 launch0 p0 e0 about1 theMethod args0 below0 :=
  ⟨lists_1, trivial, launch0.admits_env _ _ _, launch0.least_env, fairChoices_fair.cas, fairChoices_fair.clock, w_frames, w_args, w_heap, w_applies, trivial, trivial, w_case⟩
end start1
theorem witness_1 : WitnessClaimed_1 := ⟨start1.p0, start1.e0, start1.about1, start1.theMethod, start1.args0, start1.below0, start1.atStart⟩
end Jvm.Pilot.@@N@@
