import JvmDerived
import JvmDerived.Pilot.@@N@@Statement
import JvmDerived.Pilot.@@N@@Code
set_option linter.unusedVariables false
set_option linter.unusedSimpArgs false
namespace Jvm.Pilot.@@N@@
open Jvm Jvm.ClassFile Sem Op Lib Jvm.Free Jvm.Stand Jvm.LawKit Jvm.RoadKit Bundle Jvm.Pilot.@@N@@.Jvm.D
section Own
variable {p : Program} {l : Launch} {e : Env} {R : Room} {s : State} {m : MethodId} {args : Array Value} {below : List Frame} {meth : Method} {c : Code} {T : State} {locs : List Loc} {cells slots : Nat} {Z : State} {a0 : Array Value} {h : Heap} {Φ : Outcome → State → Prop}
/-- what is left of a walk: from S the invocation ends as Φ says -/
def OGo (tb : Tables) (e : Env) (below : List Frame) (Φ : Outcome → State → Prop) (S : State) : Prop := ∃ s₂ o, Steps tb e below S s₂ ∧ s₂.status = .running ∧ Ended s₂ below o ∧ Φ o s₂
theorem OGo.st {tb : Tables} {S S' : State} (h : ∀ t, Steps tb e below S' t → Steps tb e below S t) (g : OGo tb e below Φ S') : OGo tb e below Φ S := by
  obtain ⟨s₂, o, h1, r⟩ := g
  exact ⟨s₂, o, h _ h1, r⟩
theorem OGo.fin (X : Stand p l e R s m args below meth c T locs cells slots) (hlk : meth.locks = false) {v : Option Value} (hv : meth.sig.returnType = none → v = none) {g : JFrame} {k n : Nat} (hk : cells ≤ k) (hn : slots ≤ n)
    (st : ∀ fs, (∀ (f : JFrame) (acts : List Action), f.method = m → f.locked = none → f.entered = [] → (doReturn e (T.setTop f) acts v).1 = T.setFrames fs) → Steps p.tables e below (T.setTop g) (T.setFrames fs))
    (hq : ∀ U, U.heap = T.heap → FrameEnd s (.returned v) U locs k n → Φ (.returned v) U) : OGo p.tables e below Φ (T.setTop g) := by
  obtain ⟨fs, hr, hrun, hended, hW, hsame⟩ := X.leave (v := v) hv hlk
  exact ⟨_, _, st fs hr, hrun, hended, hq _ rfl ⟨⟨_, rfl⟩, hW, hsame.mono hk hn⟩⟩
/-- a contract: what every body's theorem says -/
abbrev OCon (l : Launch) (Z : State) (y : MethodName) (bytes : ByteArray) (maxL : Nat) (ret : Option FieldType) (ws : List Jvm.Cond) (rm : Room) (as' : Array Value) (h0 : Heap) (Q : Option Value → Heap → List Loc → Prop) : Prop :=
  MetFree l y (head1 (Jvm.Cond.code y bytes maxL ret :: ws) rm) (fun a U => a = as' ∧ Z.Warmed39 U.vm ∧ U.heap = h0) (fun _ _ _ _ _ => True) (fun _ U o U' => ∃ v L, o = .returned v ∧ Q v U'.heap L ∧ FrameEnd U o U' L rm.cells rm.slots)
theorem OCon.of {y : MethodName} {bytes : ByteArray} {maxL : Nat} {ret : Option FieldType} {ws : List Jvm.Cond} {rm : Room} {as' : Array Value} {h0 : Heap} {Q : Option Value → Heap → List Loc → Prop} (hpl : plainFor y = true)
    (H : ∀ (p : Program) (e : Env) (s : State) (m : MethodId) (below : List Frame) (meth : Method) (c : Code) (s₁ : State) (Φ : Outcome → State → Prop), Stand p l e rm s m as' below meth c s₁ [] 0 0 → p.tables.exec = Jvm.exec → c.code = bytes → c.maxLocals = maxL → s.vm.findClass y.cls = some m.cls → meth.name = y.name → meth.sig.returnType = ret → meth.locks = false → Z.Warmed39 s.vm → s₁.heap = h0 →
      (∀ v L U, Q v U.heap L → FrameEnd s (.returned v) U L rm.cells rm.slots → Φ (.returned v) U) → OGo p.tables e below Φ (s₁.setTop (entryFrame m as' maxL))) :
    OCon l Z y bytes maxL ret ws rm as' h0 Q := by
  refine MetFree.of_bodySF hpl hisR ?_
  intro p e s m args below meth c s₁ Bd hml0 hP hK
  obtain ⟨rfl, hZ, hh⟩ := hP
  have e0 : s₁.heap = h0 := by rw [← hh, Bd.state]; rfl
  exact H p e s m below meth c s₁ _ (Stand.of_body Bd) Bd.exec Bd.bytes hml0 (findClass_of_methodNamed Bd.named) (name_of_methodNamed Bd.named Bd.method).1 Bd.returns Bd.notSynchronized hZ e0 (fun v L U hq hf => ⟨v, L, rfl, hq, hf⟩)
theorem own_callSt (X : Stand p l e R s m args below meth c T locs cells slots) (hx : p.tables.exec = Jvm.exec) (hZ : Z.Warmed39 s.vm) {own : String} {index : Nat} {y : MethodName} {bytes : ByteArray} {maxL : Nat} {ret : Option FieldType} {rm : Room} {as' : Array Value} {Q : Option Value → Heap → List Loc → Prop}
    (hown : s.vm.findClass own = some m.cls) (w1 : (Jvm.Cond.methodLink own index y).before a0 Z = true) (w2 : (Jvm.Cond.static y).before a0 Z = true) (w3 : (Jvm.Cond.initialized y.cls).before a0 Z = true) (w4 : (Jvm.Cond.code y bytes maxL ret).before a0 Z = true) (hy : y.cls ≠ "java/lang/invoke/MethodHandle" ∧ y.cls ≠ "java/lang/invoke/VarHandle")
    (hM : OCon l Z y bytes maxL ret [] rm as' h Q) (eT : T.heap = h) {W : Nat} (hf : rm.frames + 1 ≤ R.frames) (hl : W + (maxL + 11) + rm.locals ≤ R.locals) (hcl : cells + rm.cells ≤ R.cells) (hsl : slots + rm.slots ≤ R.slots)
    {pc : Nat} {ls : Array Slot} {stk : List Value} (hsize : ls.size = c.maxLocals) {argsL rest : List Value} (hlen : ∀ sig, parseMethodDescriptor y.desc = some sig → argsL.length = sig.parameters.length) (has : argsL.toArray = as') (hstack : stk = argsL.reverse ++ rest) (hW : (rest.map fun v => v.category).sum ≤ W)
    (hd : decode c.code pc = .ok (.invokestatic index, 3)) :
    ∃ v T' L, Stand p l e R s m args below meth c T' (locs ++ L) (cells + rm.cells) (slots + rm.slots) ∧ Q v T'.heap L ∧ ∀ target, Steps p.tables e below (T'.setTop (mkF m (pc + 3) ls (v.toList ++ rest))) target → Steps p.tables e below (T.setTop (mkF m pc ls stk)) target := by
  subst has
  obtain ⟨v, vm₁, ⟨T', L', k', n'⟩, -, X', ⟨L, hQ, l1, y1, z1⟩, st⟩ := Jvm.LawKit.callS X hx (y := y) hown (mvT hZ w1) (mvT hZ w2) (mvT hZ w3) (mvT hZ w4) hy (backOf (W := W) hM hZ w4 w3 hf hl) (g := mkF m pc ls stk) rfl hsize (argsL := argsL) (rest := rest) hlen hstack (by simpa using hW) hd (fun _ _ => ⟨rfl, eT, hcl, hsl⟩)
  dsimp only [Pt.U, Pt.locs, Pt.cells, Pt.slots] at X' l1 y1 z1 st hQ
  subst l1 y1 z1
  exact ⟨v, T', L, X', hQ, st⟩
theorem own_callSp (X : Stand p l e R s m args below meth c T locs cells slots) (hx : p.tables.exec = Jvm.exec) (hZ : Z.Warmed39 s.vm) {own : String} {index : Nat} {y : MethodName} {bytes : ByteArray} {maxL : Nat} {rm : Room} {as' : Array Value} {Q : Option Value → Heap → List Loc → Prop}
    (hy1 : y.name = "<init>") (hown : s.vm.findClass own = some m.cls) (w1 : (Jvm.Cond.methodLink own index y).before a0 Z = true) (w2 : (Jvm.Cond.instanceMethod y).before a0 Z = true) (w3 : (Jvm.Cond.initialized y.cls).before a0 Z = true) (w4 : (Jvm.Cond.code y bytes maxL none).before a0 Z = true) (hy : y.cls ≠ "java/lang/invoke/MethodHandle" ∧ y.cls ≠ "java/lang/invoke/VarHandle")
    (hM : OCon l Z y bytes maxL none [] rm as' h Q) (eT : T.heap = h) {W : Nat} (hf : rm.frames + 1 ≤ R.frames) (hl : W + (maxL + 11) + rm.locals ≤ R.locals) (hcl : cells + rm.cells ≤ R.cells) (hsl : slots + rm.slots ≤ R.slots)
    {pc : Nat} {ls : Array Slot} {stk : List Value} (hsize : ls.size = c.maxLocals) {a : Addr} {argsL rest : List Value} (hlen : ∀ sig, parseMethodDescriptor y.desc = some sig → argsL.length = sig.parameters.length) (has : (.ref a :: argsL).toArray = as') (hstack : stk = argsL.reverse ++ .ref a :: rest) (hW : (rest.map fun v => v.category).sum ≤ W)
    (hd : decode c.code pc = .ok (.invokespecial index, 3)) :
    ∃ v T' L, Stand p l e R s m args below meth c T' (locs ++ L) (cells + rm.cells) (slots + rm.slots) ∧ Q v T'.heap L ∧ ∀ target, Steps p.tables e below (T'.setTop (mkF m (pc + 3) ls (v.toList ++ rest))) target → Steps p.tables e below (T.setTop (mkF m pc ls stk)) target := by
  subst has
  obtain ⟨v, vm₁, ⟨T', L', k', n'⟩, -, X', ⟨L, hQ, l1, y1, z1⟩, st⟩ := X.specialBack hx (y := y) hy1 hown (mvT hZ w1) (mvT hZ w2) (mvT hZ w4) hy (backOf (W := W) hM hZ w4 w3 hf hl) (g := mkF m pc ls stk) rfl hsize (Steps.refl _) (a := a) (argsL := argsL) (rest := rest) hlen hstack (by simpa using hW) hd (fun _ _ => ⟨rfl, eT, hcl, hsl⟩)
  dsimp only [Pt.U, Pt.locs, Pt.cells, Pt.slots] at X' l1 y1 z1 st hQ
  subst l1 y1 z1
  exact ⟨v, T', L, X', hQ, fun t k => st.trans k⟩
theorem own_callVi (X : Stand p l e R s m args below meth c T locs cells slots) (hx : p.tables.exec = Jvm.exec) (hZ : Z.Warmed39 s.vm) {own C : String} {index : Nat} {y z : MethodName} {bytes : ByteArray} {maxL : Nat} {ret : Option FieldType} {rm : Room} {as' : Array Value} {Q : Option Value → Heap → List Loc → Prop}
    (hown : s.vm.findClass own = some m.cls) (w1 : (Jvm.Cond.methodLink own index y).before a0 Z = true) (w2 : (Jvm.Cond.declares y).before a0 Z = true) (nf : NotFace s y) (w3 : (Jvm.Cond.selects C y z).before a0 Z = true) (w4 : (Jvm.Cond.instanceMethod z).before a0 Z = true) (w5 : (Jvm.Cond.initialized z.cls).before a0 Z = true) (w6 : (Jvm.Cond.code z bytes maxL ret).before a0 Z = true) (hy : y.cls ≠ "java/lang/invoke/MethodHandle" ∧ y.cls ≠ "java/lang/invoke/VarHandle")
    (hM : OCon l Z z bytes maxL ret [] rm as' h Q) (eT : T.heap = h) {W : Nat} (hf : rm.frames + 1 ≤ R.frames) (hl : W + (maxL + 11) + rm.locals ≤ R.locals) (hcl : cells + rm.cells ≤ R.cells) (hsl : slots + rm.slots ≤ R.slots) {a : Addr} (E : Exa Z h a C)
    {pc : Nat} {ls : Array Slot} {stk : List Value} (hsize : ls.size = c.maxLocals) {argsL rest : List Value} (hlen : ∀ sig, parseMethodDescriptor y.desc = some sig → argsL.length = sig.parameters.length) (has : (.ref a :: argsL).toArray = as') (hstack : stk = argsL.reverse ++ .ref a :: rest) (hW : (rest.map fun v => v.category).sum ≤ W)
    (hd : decode c.code pc = .ok (.invokevirtual index, 3)) :
    ∃ v T' L, Stand p l e R s m args below meth c T' (locs ++ L) (cells + rm.cells) (slots + rm.slots) ∧ Q v T'.heap L ∧ ∀ target, Steps p.tables e below (T'.setTop (mkF m (pc + 3) ls (v.toList ++ rest))) target → Steps p.tables e below (T.setTop (mkF m pc ls stk)) target := by
  subst has
  obtain ⟨cq, kq, qa, qb, qc⟩ := isOf hZ eT E
  obtain ⟨v, vm₁, ⟨T', L', k', n'⟩, -, X', ⟨L, hQ, l1, y1, z1⟩, st⟩ := X.virtualBack hx (y := y) (z := z) hown (mvT hZ w1) (mvT hZ w2) nf (mvT hZ w3) (mvT hZ w4) hy (backOf (W := W) hM hZ w6 w5 hf hl) qa qc (g := mkF m pc ls stk) rfl hsize (Steps.refl _) (argsL := argsL) (rest := rest) hlen hstack (by simpa using hW) hd (fun _ _ => ⟨rfl, eT, hcl, hsl⟩)
  dsimp only [Pt.U, Pt.locs, Pt.cells, Pt.slots] at X' l1 y1 z1 st hQ
  subst l1 y1 z1
  exact ⟨v, T', L, X', hQ, fun t k => st.trans k⟩
theorem own_lremM {g : JFrame} {target : State} (X : Stand p l e R s m args below meth c T locs cells slots) (hx : p.tables.exec = Jvm.exec) (hg : g.method = m) {x y : Int64} {rest : List Value} (hd : decode c.code g.pc = .ok (.lrem, 1)) (hs : g.stack = .long y :: .long x :: rest) (hy : y ≠ 0)
    (hr : Steps p.tables e below (T.setTop { g with pc := g.pc + 1, stack := .long (x % y) :: rest }) target) : Steps p.tables e below (T.setTop g) target :=
  XT.lrem X.here hx hg hd hs hy (by rw [lrem_mod]; exact hr)
theorem own_nz {x : Int32} (q : x = 0 ∨ x = 1) : narrow .boolean (.int x) = .int x := by rcases q with rfl | rfl <;> rfl
theorem own_fz {x : Int32} (q : x = 0 ∨ x = 1) : fits .boolean (.int x) = true := by rcases q with rfl | rfl <;> rfl
theorem own_irr (x : Int32) : ¬ x < x := fun q => absurd (Int32.lt_iff_toInt_lt.mp q) (Int.lt_irrefl _)
theorem own_irrL (x : Int64) : ¬ x < x := fun q => absurd (Int64.lt_iff_toInt_lt.mp q) (Int.lt_irrefl _)
/-- a small int is one of the first n -/
theorem own_small {n : Nat} (hn : n < 2 ^ 31) (x : Int32) (h0 : ¬ x < 0) (h1 : x.toInt < n) : ∃ k : Fin n, x = Int32.ofInt k.val := by
  have h2 : 0 ≤ x.toInt := by
    rcases Int.lt_or_le x.toInt 0 with q | q
    · exact absurd (Int32.lt_iff_toInt_lt.mpr q) h0
    · exact q
  refine ⟨⟨x.toInt.toNat, by omega⟩, ?_⟩
  rw [Int.toNat_of_nonneg h2, Int32.ofInt_toInt]
end Own
section OwnSta
variable {args : Array Value} {Z : State} {a : Addr} {t : Jvm.Term}
theorem own_eqV {u : Jvm.Term} {v : Value} (hu : u.eval args Z none [] Z = some v) (hv : (match v with | .retAddr _ => false | _ => true) = true) (q : (Jvm.Cond.eq t u).value args Z none Z [] = some true) : t.eval args Z none [] Z = some v := by
  obtain ⟨x, y, ex, ey, k1, k2⟩ := cmp_v (Or.inl q)
  cases hu.symm.trans ey
  rw [ex]
  cases x <;> cases v <;> simp_all [Jvm.Cond.value, Kin, Value.isRef]
theorem own_fldI {C n d : String} {k : Int32} (ev : t.eval args Z none [] Z = some (.ref a)) (q : (Jvm.Cond.eq (Jvm.Term.field t C n d) (Jvm.Term.int k)).value args Z none Z [] = some true) : Fld Z Z.heap a C n d (.int k) :=
  Fld.start ((fld_at ev).symm.trans (own_eqV (Term.int_eval k) rfl q))
theorem own_lenI {k : Int32} {cl : Cell} {ty : FieldType} (ev : t.eval args Z none [] Z = some (.ref a)) (A : Arr Z Z.heap a cl ty) (q : (Jvm.Cond.eq (Jvm.Term.length t) (Jvm.Term.int k)).value args Z none Z [] = some true) : cl.slots.size < 2 ^ 31 ∧ cl.slots.size.toInt32 = k := by
  have h := own_eqV (Term.int_eval k) rfl q
  obtain ⟨b, cell, ht, harr, hl⟩ := Term.length_spec h
  cases ev.symm.trans ht
  have ha : Z.arrayAt? a = some cl := Arr.fin (Vm.Alike.refl _) A
  cases ha.symm.trans harr
  by_cases hs : cl.slots.size < 2 ^ 31
  · exact ⟨hs, (Value.int.inj (Option.some.inj ((len_f ev ha hs).symm.trans h)))⟩
  · exfalso
    rw [Jvm.Term.eval, ev] at h
    simp [ha] at h
    omega
theorem own_elem {j : Int32} {n : Nat} {u : Jvm.Term} {v : Value} {cl : Cell} {ty : FieldType} (ev : t.eval args Z none [] Z = some (.ref a)) (A : Arr Z Z.heap a cl ty) (hu : u.eval args Z none [] Z = some v) (hv : (match v with | .retAddr _ => false | _ => true) = true) (hj : j.toNatClampNeg = n) (q : (Jvm.Cond.eq (Jvm.Term.elem t (Jvm.Term.int j)) u).value args Z none Z [] = some true) : cl.slots[n]? = some v :=
  hj ▸ (elem_in (own_eqV hu hv q) ev (Term.int_eval j) A.1).2
end OwnSta
section OwnBox
theorem own_bxin {i : Int32} {n : Nat} (h1 : ¬ i < -128) (h2 : ¬ 127 < i) (S : n = (256 : Int32).toNatClampNeg) : ¬ ((i + 128) < 0 ∨ n ≤ (i + 128).toNatClampNeg) := by
  have a1 : (-128 : Int32).toInt = -128 := by decide
  have a2 : (127 : Int32).toInt = 127 := by decide
  have a3 : (128 : Int32).toInt = 128 := by decide
  have a0 : (0 : Int32).toInt = 0 := by decide
  have e : (i + 128).toInt = i.toInt + 128 := by
    rw [XT.add32, a3]
    have := rng32 i
    rw [Int32.lt_iff_toInt_lt, a2] at h2
    simp only [XT.fits32, a3]; omega
  rw [Int32.lt_iff_toInt_lt, a1] at h1
  rw [Int32.lt_iff_toInt_lt, a2] at h2
  have hS : (256 : Int32).toNatClampNeg = 256 := by decide
  rw [Int32.lt_iff_toInt_lt, a0, S, hS]
  simp only [Int32.toNatClampNeg, e]
  omega
theorem own_subI {args : Array Value} {Z : State} {idx : List Nat} {t : Jvm.Term} {y : Int32} (h : t.eval args Z none idx Z = some (.int y)) : (Jvm.Term.sub t (Jvm.Term.int (128 : Int32))).eval args Z none idx Z = some (.int (y - 128)) := by simp [Jvm.Term.eval, h]
end OwnBox
theorem ow0 {Z : State} {a0 : Array Value} (hw : ∀ d ∈ tables_1, d.before a0 Z = true) : (Jvm.Cond.arrayClass Jvm.ClassFile.FieldType.char).before a0 Z = true := hw _ (List.mem_of_getElem? (i := 0) rfl)
theorem ow1 {Z : State} {a0 : Array Value} (hw : ∀ d ∈ tables_1, d.before a0 Z = true) : (Jvm.Cond.classLink "com/example/bowerbird/bowerbird/service/EvaluatorOrNullPinLaw" (13 : Nat) "java/lang/String").before a0 Z = true := hw _ (List.mem_of_getElem? (i := 1) rfl)
theorem ow2 {Z : State} {a0 : Array Value} (hw : ∀ d ∈ tables_1, d.before a0 Z = true) : (Jvm.Cond.instantiable "java/lang/String" (4 : Nat)).before a0 Z = true := hw _ (List.mem_of_getElem? (i := 2) rfl)
theorem ow3 {Z : State} {a0 : Array Value} (hw : ∀ d ∈ tables_1, d.before a0 Z = true) : (Jvm.Cond.initialized "java/lang/String").before a0 Z = true := hw _ (List.mem_of_getElem? (i := 3) rfl)
theorem ow4 {Z : State} {a0 : Array Value} (hw : ∀ d ∈ tables_1, d.before a0 Z = true) : (Jvm.Cond.methodLink "com/example/bowerbird/bowerbird/service/EvaluatorOrNullPinLaw" (15 : Nat) ({ cls := "java/lang/String", name := "<init>", desc := "([C)V" } : Jvm.MethodName)).before a0 Z = true := hw _ (List.mem_of_getElem? (i := 4) rfl)
theorem ow5 {Z : State} {a0 : Array Value} (hw : ∀ d ∈ tables_1, d.before a0 Z = true) : (Jvm.Cond.instanceMethod ({ cls := "java/lang/String", name := "<init>", desc := "([C)V" } : Jvm.MethodName)).before a0 Z = true := hw _ (List.mem_of_getElem? (i := 5) rfl)
theorem ow6 {Z : State} {a0 : Array Value} (hw : ∀ d ∈ tables_1, d.before a0 Z = true) : (Jvm.Cond.code ({ cls := "java/lang/String", name := "<init>", desc := "([C)V" } : Jvm.MethodName) jdk_42_method_3_code (2 : Nat) (Option.none : Option Jvm.ClassFile.FieldType)).before a0 Z = true := hw _ (List.mem_of_getElem? (i := 6) rfl)
theorem ow7 {Z : State} {a0 : Array Value} (hw : ∀ d ∈ tables_1, d.before a0 Z = true) : (Jvm.Cond.methodLink "java/lang/String" (27 : Nat) ({ cls := "java/lang/String", name := "<init>", desc := "([CIILjava/lang/Void;)V" } : Jvm.MethodName)).before a0 Z = true := hw _ (List.mem_of_getElem? (i := 7) rfl)
theorem ow8 {Z : State} {a0 : Array Value} (hw : ∀ d ∈ tables_1, d.before a0 Z = true) : (Jvm.Cond.instanceMethod ({ cls := "java/lang/String", name := "<init>", desc := "([CIILjava/lang/Void;)V" } : Jvm.MethodName)).before a0 Z = true := hw _ (List.mem_of_getElem? (i := 8) rfl)
theorem ow10 {Z : State} {a0 : Array Value} (hw : ∀ d ∈ tables_1, d.before a0 Z = true) : (Jvm.Cond.code ({ cls := "java/lang/String", name := "<init>", desc := "([CIILjava/lang/Void;)V" } : Jvm.MethodName) jdk_42_method_149_code (6 : Nat) (Option.none : Option Jvm.ClassFile.FieldType)).before a0 Z = true := hw _ (List.mem_of_getElem? (i := 10) rfl)
theorem ow11 {Z : State} {a0 : Array Value} (hw : ∀ d ∈ tables_1, d.before a0 Z = true) : (Jvm.Cond.methodLink "java/lang/String" (1 : Nat) ({ cls := "java/lang/Object", name := "<init>", desc := "()V" } : Jvm.MethodName)).before a0 Z = true := hw _ (List.mem_of_getElem? (i := 11) rfl)
theorem ow12 {Z : State} {a0 : Array Value} (hw : ∀ d ∈ tables_1, d.before a0 Z = true) : (Jvm.Cond.instanceMethod ({ cls := "java/lang/Object", name := "<init>", desc := "()V" } : Jvm.MethodName)).before a0 Z = true := hw _ (List.mem_of_getElem? (i := 12) rfl)
theorem ow13 {Z : State} {a0 : Array Value} (hw : ∀ d ∈ tables_1, d.before a0 Z = true) : (Jvm.Cond.code ({ cls := "java/lang/Object", name := "<init>", desc := "()V" } : Jvm.MethodName) object_method_1_code (1 : Nat) (Option.none : Option Jvm.ClassFile.FieldType)).before a0 Z = true := hw _ (List.mem_of_getElem? (i := 13) rfl)
theorem ow14 {Z : State} {a0 : Array Value} (hw : ∀ d ∈ tables_1, d.before a0 Z = true) : (Jvm.Cond.fieldLink "java/lang/String" (38 : Nat) "java/lang/String" "COMPACT_STRINGS" "Z").before a0 Z = true := hw _ (List.mem_of_getElem? (i := 14) rfl)
theorem ow15 {Z : State} {a0 : Array Value} (hw : ∀ d ∈ tables_1, d.before a0 Z = true) : (Jvm.Cond.methodLink "java/lang/String" (177 : Nat) ({ cls := "java/lang/StringUTF16", name := "compress", desc := "([CII)[B" } : Jvm.MethodName)).before a0 Z = true := hw _ (List.mem_of_getElem? (i := 15) rfl)
theorem ow16 {Z : State} {a0 : Array Value} (hw : ∀ d ∈ tables_1, d.before a0 Z = true) : (Jvm.Cond.static ({ cls := "java/lang/StringUTF16", name := "compress", desc := "([CII)[B" } : Jvm.MethodName)).before a0 Z = true := hw _ (List.mem_of_getElem? (i := 16) rfl)
theorem ow17 {Z : State} {a0 : Array Value} (hw : ∀ d ∈ tables_1, d.before a0 Z = true) : (Jvm.Cond.initialized "java/lang/StringUTF16").before a0 Z = true := hw _ (List.mem_of_getElem? (i := 17) rfl)
theorem ow18 {Z : State} {a0 : Array Value} (hw : ∀ d ∈ tables_1, d.before a0 Z = true) : (Jvm.Cond.code ({ cls := "java/lang/StringUTF16", name := "compress", desc := "([CII)[B" } : Jvm.MethodName) jdk_52_method_16_code (6 : Nat) (Option.some (Jvm.ClassFile.FieldType.array Jvm.ClassFile.FieldType.byte))).before a0 Z = true := hw _ (List.mem_of_getElem? (i := 18) rfl)
theorem ow19 {Z : State} {a0 : Array Value} (hw : ∀ d ∈ tables_1, d.before a0 Z = true) : (Jvm.Cond.arrayClass Jvm.ClassFile.FieldType.byte).before a0 Z = true := hw _ (List.mem_of_getElem? (i := 19) rfl)
theorem ow20 {Z : State} {a0 : Array Value} (hw : ∀ d ∈ tables_1, d.before a0 Z = true) : (Jvm.Cond.methodLink "java/lang/StringUTF16" (115 : Nat) ({ cls := "java/lang/StringUTF16", name := "compress", desc := "([CI[BII)I" } : Jvm.MethodName)).before a0 Z = true := hw _ (List.mem_of_getElem? (i := 20) rfl)
theorem ow21 {Z : State} {a0 : Array Value} (hw : ∀ d ∈ tables_1, d.before a0 Z = true) : (Jvm.Cond.static ({ cls := "java/lang/StringUTF16", name := "compress", desc := "([CI[BII)I" } : Jvm.MethodName)).before a0 Z = true := hw _ (List.mem_of_getElem? (i := 21) rfl)
theorem ow22 {Z : State} {a0 : Array Value} (hw : ∀ d ∈ tables_1, d.before a0 Z = true) : (Jvm.Cond.code ({ cls := "java/lang/StringUTF16", name := "compress", desc := "([CI[BII)I" } : Jvm.MethodName) jdk_52_method_21_code (7 : Nat) (Option.some Jvm.ClassFile.FieldType.int)).before a0 Z = true := hw _ (List.mem_of_getElem? (i := 22) rfl)
theorem ow23 {Z : State} {a0 : Array Value} (hw : ∀ d ∈ tables_1, d.before a0 Z = true) : (Jvm.Cond.methodLink "java/lang/String" (47 : Nat) ({ cls := "java/lang/StringUTF16", name := "coderFromArrayLen", desc := "([BI)B" } : Jvm.MethodName)).before a0 Z = true := hw _ (List.mem_of_getElem? (i := 23) rfl)
theorem ow24 {Z : State} {a0 : Array Value} (hw : ∀ d ∈ tables_1, d.before a0 Z = true) : (Jvm.Cond.static ({ cls := "java/lang/StringUTF16", name := "coderFromArrayLen", desc := "([BI)B" } : Jvm.MethodName)).before a0 Z = true := hw _ (List.mem_of_getElem? (i := 24) rfl)
theorem ow25 {Z : State} {a0 : Array Value} (hw : ∀ d ∈ tables_1, d.before a0 Z = true) : (Jvm.Cond.code ({ cls := "java/lang/StringUTF16", name := "coderFromArrayLen", desc := "([BI)B" } : Jvm.MethodName) jdk_52_method_15_code (2 : Nat) (Option.some Jvm.ClassFile.FieldType.byte)).before a0 Z = true := hw _ (List.mem_of_getElem? (i := 25) rfl)
theorem ow26 {Z : State} {a0 : Array Value} (hw : ∀ d ∈ tables_1, d.before a0 Z = true) : (Jvm.Cond.fieldLink "java/lang/String" (15 : Nat) "java/lang/String" "coder" "B").before a0 Z = true := hw _ (List.mem_of_getElem? (i := 26) rfl)
theorem ow27 {Z : State} {a0 : Array Value} (hw : ∀ d ∈ tables_1, d.before a0 Z = true) : (Jvm.Cond.laysFinal "java/lang/String" "java/lang/String" "coder" "B").before a0 Z = true := hw _ (List.mem_of_getElem? (i := 27) rfl)
theorem ow28 {Z : State} {a0 : Array Value} (hw : ∀ d ∈ tables_1, d.before a0 Z = true) : (Jvm.Cond.fieldLink "java/lang/String" (9 : Nat) "java/lang/String" "value" "[B").before a0 Z = true := hw _ (List.mem_of_getElem? (i := 28) rfl)
theorem ow29 {Z : State} {a0 : Array Value} (hw : ∀ d ∈ tables_1, d.before a0 Z = true) : (Jvm.Cond.laysFinal "java/lang/String" "java/lang/String" "value" "[B").before a0 Z = true := hw _ (List.mem_of_getElem? (i := 29) rfl)
theorem ow30 {Z : State} {a0 : Array Value} (hw : ∀ d ∈ tables_1, d.before a0 Z = true) : (Jvm.Cond.methodLink "com/example/bowerbird/bowerbird/service/EvaluatorOrNullPinLaw" (24 : Nat) ({ cls := "com/example/bowerbird/bowerbird/service/Evaluator", name := "orNull", desc := "(Ljava/lang/Object;)Ljava/lang/Object;" } : Jvm.MethodName)).before a0 Z = true := hw _ (List.mem_of_getElem? (i := 30) rfl)
theorem ow31 {Z : State} {a0 : Array Value} (hw : ∀ d ∈ tables_1, d.before a0 Z = true) : (Jvm.Cond.static ({ cls := "com/example/bowerbird/bowerbird/service/Evaluator", name := "orNull", desc := "(Ljava/lang/Object;)Ljava/lang/Object;" } : Jvm.MethodName)).before a0 Z = true := hw _ (List.mem_of_getElem? (i := 31) rfl)
theorem ow32 {Z : State} {a0 : Array Value} (hw : ∀ d ∈ tables_1, d.before a0 Z = true) : (Jvm.Cond.initialized "com/example/bowerbird/bowerbird/service/Evaluator").before a0 Z = true := hw _ (List.mem_of_getElem? (i := 32) rfl)
theorem ow33 {Z : State} {a0 : Array Value} (hw : ∀ d ∈ tables_1, d.before a0 Z = true) : (Jvm.Cond.code ({ cls := "com/example/bowerbird/bowerbird/service/Evaluator", name := "orNull", desc := "(Ljava/lang/Object;)Ljava/lang/Object;" } : Jvm.MethodName) prog_82_method_35_code (1 : Nat) (Option.some (Jvm.ClassFile.FieldType.object "java/lang/Object"))).before a0 Z = true := hw _ (List.mem_of_getElem? (i := 33) rfl)
theorem ow34 {Z : State} {a0 : Array Value} (hw : ∀ d ∈ tables_1, d.before a0 Z = true) : (Jvm.Cond.fieldLink "com/example/bowerbird/bowerbird/service/Evaluator" (413 : Nat) "com/example/bowerbird/bowerbird/service/Evaluator" "NULL" "Ljava/lang/Object;").before a0 Z = true := hw _ (List.mem_of_getElem? (i := 34) rfl)
theorem ow35 {Z : State} {a0 : Array Value} (hw : ∀ d ∈ tables_1, d.before a0 Z = true) : (Jvm.Cond.laysStatic "com/example/bowerbird/bowerbird/service/Evaluator" "NULL" "Ljava/lang/Object;").before a0 Z = true := hw _ (List.mem_of_getElem? (i := 35) rfl)
theorem ow36 {Z : State} {a0 : Array Value} (hw : ∀ d ∈ tables_1, d.before a0 Z = true) : (Jvm.Cond.fieldLink "com/example/bowerbird/bowerbird/service/EvaluatorOrNullPinLaw" (7 : Nat) "com/example/bowerbird/bowerbird/service/Evaluator" "NULL" "Ljava/lang/Object;").before a0 Z = true := hw _ (List.mem_of_getElem? (i := 36) rfl)
theorem ow37 {Z : State} {a0 : Array Value} (hw : ∀ d ∈ tables_1, d.before a0 Z = true) : (Jvm.Cond.methodLink "com/example/bowerbird/bowerbird/service/EvaluatorOrNullPinLaw" (18 : Nat) ({ cls := "java/lang/Integer", name := "valueOf", desc := "(I)Ljava/lang/Integer;" } : Jvm.MethodName)).before a0 Z = true := hw _ (List.mem_of_getElem? (i := 37) rfl)
theorem ow38 {Z : State} {a0 : Array Value} (hw : ∀ d ∈ tables_1, d.before a0 Z = true) : (Jvm.Cond.static ({ cls := "java/lang/Integer", name := "valueOf", desc := "(I)Ljava/lang/Integer;" } : Jvm.MethodName)).before a0 Z = true := hw _ (List.mem_of_getElem? (i := 38) rfl)
theorem ow39 {Z : State} {a0 : Array Value} (hw : ∀ d ∈ tables_1, d.before a0 Z = true) : (Jvm.Cond.initialized "java/lang/Integer").before a0 Z = true := hw _ (List.mem_of_getElem? (i := 39) rfl)
theorem ow40 {Z : State} {a0 : Array Value} (hw : ∀ d ∈ tables_1, d.before a0 Z = true) : (Jvm.Cond.code ({ cls := "java/lang/Integer", name := "valueOf", desc := "(I)Ljava/lang/Integer;" } : Jvm.MethodName) jdk_33_method_22_code (1 : Nat) (Option.some (Jvm.ClassFile.FieldType.object "java/lang/Integer"))).before a0 Z = true := hw _ (List.mem_of_getElem? (i := 40) rfl)
theorem ow41 {Z : State} {a0 : Array Value} (hw : ∀ d ∈ tables_1, d.before a0 Z = true) : (Jvm.Cond.classLink "java/lang/Integer" (1 : Nat) "java/lang/Integer").before a0 Z = true := hw _ (List.mem_of_getElem? (i := 41) rfl)
theorem ow42 {Z : State} {a0 : Array Value} (hw : ∀ d ∈ tables_1, d.before a0 Z = true) : (Jvm.Cond.instantiable "java/lang/Integer" (1 : Nat)).before a0 Z = true := hw _ (List.mem_of_getElem? (i := 42) rfl)
theorem ow43 {Z : State} {a0 : Array Value} (hw : ∀ d ∈ tables_1, d.before a0 Z = true) : (Jvm.Cond.methodLink "java/lang/Integer" (199 : Nat) ({ cls := "java/lang/Integer", name := "<init>", desc := "(I)V" } : Jvm.MethodName)).before a0 Z = true := hw _ (List.mem_of_getElem? (i := 43) rfl)
theorem ow44 {Z : State} {a0 : Array Value} (hw : ∀ d ∈ tables_1, d.before a0 Z = true) : (Jvm.Cond.instanceMethod ({ cls := "java/lang/Integer", name := "<init>", desc := "(I)V" } : Jvm.MethodName)).before a0 Z = true := hw _ (List.mem_of_getElem? (i := 44) rfl)
theorem ow46 {Z : State} {a0 : Array Value} (hw : ∀ d ∈ tables_1, d.before a0 Z = true) : (Jvm.Cond.code ({ cls := "java/lang/Integer", name := "<init>", desc := "(I)V" } : Jvm.MethodName) jdk_33_method_23_code (2 : Nat) (Option.none : Option Jvm.ClassFile.FieldType)).before a0 Z = true := hw _ (List.mem_of_getElem? (i := 46) rfl)
theorem ow47 {Z : State} {a0 : Array Value} (hw : ∀ d ∈ tables_1, d.before a0 Z = true) : (Jvm.Cond.methodLink "java/lang/Integer" (202 : Nat) ({ cls := "java/lang/Number", name := "<init>", desc := "()V" } : Jvm.MethodName)).before a0 Z = true := hw _ (List.mem_of_getElem? (i := 47) rfl)
theorem ow48 {Z : State} {a0 : Array Value} (hw : ∀ d ∈ tables_1, d.before a0 Z = true) : (Jvm.Cond.instanceMethod ({ cls := "java/lang/Number", name := "<init>", desc := "()V" } : Jvm.MethodName)).before a0 Z = true := hw _ (List.mem_of_getElem? (i := 48) rfl)
theorem ow51 {Z : State} {a0 : Array Value} (hw : ∀ d ∈ tables_1, d.before a0 Z = true) : (Jvm.Cond.initialized "java/lang/Number").before a0 Z = true := hw _ (List.mem_of_getElem? (i := 51) rfl)
theorem ow52 {Z : State} {a0 : Array Value} (hw : ∀ d ∈ tables_1, d.before a0 Z = true) : (Jvm.Cond.code ({ cls := "java/lang/Number", name := "<init>", desc := "()V" } : Jvm.MethodName) jdk_18_method_1_code (1 : Nat) (Option.none : Option Jvm.ClassFile.FieldType)).before a0 Z = true := hw _ (List.mem_of_getElem? (i := 52) rfl)
theorem ow53 {Z : State} {a0 : Array Value} (hw : ∀ d ∈ tables_1, d.before a0 Z = true) : (Jvm.Cond.methodLink "java/lang/Number" (1 : Nat) ({ cls := "java/lang/Object", name := "<init>", desc := "()V" } : Jvm.MethodName)).before a0 Z = true := hw _ (List.mem_of_getElem? (i := 53) rfl)
theorem ow54 {Z : State} {a0 : Array Value} (hw : ∀ d ∈ tables_1, d.before a0 Z = true) : (Jvm.Cond.fieldLink "java/lang/Integer" (205 : Nat) "java/lang/Integer" "value" "I").before a0 Z = true := hw _ (List.mem_of_getElem? (i := 54) rfl)
theorem ow55 {Z : State} {a0 : Array Value} (hw : ∀ d ∈ tables_1, d.before a0 Z = true) : (Jvm.Cond.laysFinal "java/lang/Integer" "java/lang/Integer" "value" "I").before a0 Z = true := hw _ (List.mem_of_getElem? (i := 55) rfl)
theorem ow56 {Z : State} {a0 : Array Value} (hw : ∀ d ∈ tables_1, d.before a0 Z = true) : (Jvm.Cond.fieldLink "java/lang/Integer" (191 : Nat) "java/lang/Integer$IntegerCache" "high" "I").before a0 Z = true := hw _ (List.mem_of_getElem? (i := 56) rfl)
theorem ow57 {Z : State} {a0 : Array Value} (hw : ∀ d ∈ tables_1, d.before a0 Z = true) : (Jvm.Cond.initialized "java/lang/Integer$IntegerCache").before a0 Z = true := hw _ (List.mem_of_getElem? (i := 57) rfl)
theorem ow58 {Z : State} {a0 : Array Value} (hw : ∀ d ∈ tables_1, d.before a0 Z = true) : (Jvm.Cond.fieldLink "java/lang/Integer" (195 : Nat) "java/lang/Integer$IntegerCache" "cache" "[Ljava/lang/Integer;").before a0 Z = true := hw _ (List.mem_of_getElem? (i := 58) rfl)
theorem own_lat (x : Int32) : ¬ (255 : Int32) < nar .char ((x &&& (255 : Int32)).toUInt32.toUInt16.toUInt32.toInt32) := by
  have e : nar .char ((x &&& (255 : Int32)).toUInt32.toUInt16.toUInt32.toInt32) = x &&& 255 := by
    show ((x &&& (255 : Int32)).toUInt32.toUInt16.toUInt32.toInt32).toUInt32.toUInt16.toUInt32.toInt32 = _
    rw [i2c_mask, i2c_mask]
  have a : (255 : Int32).toInt = 255 := by decide
  have m := (c_and x 255 (by decide)).2
  rw [e, Int32.lt_iff_toInt_lt]; omega

theorem pn0 : plainName "java/lang/StringUTF16" = true := by first | (simp [plainName, overriddenIn]; done) | decide +kernel
theorem d_jdk_52_method_21_0 : decode jdk_52_method_21_code 0 = .ok (.iconst 0, 1) := by decide +kernel
theorem d_jdk_52_method_21_1 : decode jdk_52_method_21_code 1 = .ok (.istore 5, 2) := by decide +kernel
theorem d_jdk_52_method_21_3 : decode jdk_52_method_21_code 3 = .ok (.iload 5, 2) := by decide +kernel
theorem d_jdk_52_method_21_5 : decode jdk_52_method_21_code 5 = .ok (.iload 4, 2) := by decide +kernel
theorem d_jdk_52_method_21_7 : decode jdk_52_method_21_code 7 = .ok (.if_icmp .ge 37, 3) := by decide +kernel
theorem d_jdk_52_method_21_10 : decode jdk_52_method_21_code 10 = .ok (.aload_n 0, 1) := by decide +kernel
theorem d_jdk_52_method_21_11 : decode jdk_52_method_21_code 11 = .ok (.iload_n 1, 1) := by decide +kernel
theorem d_jdk_52_method_21_12 : decode jdk_52_method_21_code 12 = .ok (.caload, 1) := by decide +kernel
theorem d_jdk_52_method_21_13 : decode jdk_52_method_21_code 13 = .ok (.istore 6, 2) := by decide +kernel
theorem d_jdk_52_method_21_15 : decode jdk_52_method_21_code 15 = .ok (.iload 6, 2) := by decide +kernel
theorem d_jdk_52_method_21_17 : decode jdk_52_method_21_code 17 = .ok (.sipush 255, 3) := by decide +kernel
theorem d_jdk_52_method_21_20 : decode jdk_52_method_21_code 20 = .ok (.if_icmp .le 6, 3) := by decide +kernel
theorem d_jdk_52_method_21_26 : decode jdk_52_method_21_code 26 = .ok (.aload_n 2, 1) := by decide +kernel
theorem d_jdk_52_method_21_27 : decode jdk_52_method_21_code 27 = .ok (.iload_n 3, 1) := by decide +kernel
theorem d_jdk_52_method_21_28 : decode jdk_52_method_21_code 28 = .ok (.iload 6, 2) := by decide +kernel
theorem d_jdk_52_method_21_30 : decode jdk_52_method_21_code 30 = .ok (.i2b, 1) := by decide +kernel
theorem d_jdk_52_method_21_31 : decode jdk_52_method_21_code 31 = .ok (.bastore, 1) := by decide +kernel
theorem d_jdk_52_method_21_32 : decode jdk_52_method_21_code 32 = .ok (.iinc 1 1, 3) := by decide +kernel
theorem d_jdk_52_method_21_35 : decode jdk_52_method_21_code 35 = .ok (.iinc 3 1, 3) := by decide +kernel
theorem d_jdk_52_method_21_38 : decode jdk_52_method_21_code 38 = .ok (.iinc 5 1, 3) := by decide +kernel
theorem d_jdk_52_method_21_41 : decode jdk_52_method_21_code 41 = .ok (.goto (-38), 3) := by decide +kernel
theorem d_jdk_52_method_21_44 : decode jdk_52_method_21_code 44 = .ok (.iload 4, 2) := by decide +kernel
theorem d_jdk_52_method_21_46 : decode jdk_52_method_21_code 46 = .ok (.ireturn, 1) := by decide +kernel
theorem ef_rsc2 (m : MethodId) (x0 : Addr) (x1 : Int32) (x2 : Addr) (x3 : Int32) (x4 : Int32) : entryFrame m #[(.ref x0), (.int x1), (.ref x2), (.int x3), (.int x4)] 7 = mkF m 0 #[.val (.ref x0), .val (.int x1), .val (.ref x2), .val (.int x3), .val (.int x4), .unset, .unset] [] := by first | (simp [entryFrame, mkF, argsToLocals, Value.category]; done) | rfl
def Q_rsc2 (Z : State) (a : Addr) (ca : ClassId) (b : Addr) (cb : ClassId) (c0_ : Int32) (h0 : Heap) (n0 : Nat) (v : Option Value) (h : Heap) (L : List Loc) : Prop := v = some (.int (1 : Int32)) ∧ Fr n0 L ∧ Keep h0 h [b] ∧ Arv Z h b cb .byte (1 : Int32) [(.int (nar .byte (c0_.toInt8.toInt32)))] (.int (0 : Int32))
set_option maxRecDepth 65536 in
set_option maxHeartbeats 40000000 in
theorem rsc2 (l : Launch) (Z : State) (a0 : Array Value) (hw : ∀ d ∈ tables_1, d.before a0 Z = true) (ws : List Jvm.Cond) (a : Addr) (ca : ClassId) (b : Addr) (cb : ClassId) (c0_ : Int32) (h0 : Heap) (n0 : Nat) (Z0 : n0 ≤ h0.size) (V_a : Arv Z h0 a ca .char (1 : Int32) [(.int c0_)] (.int (0 : Int32))) (V_b : Arv Z h0 b cb .byte (1 : Int32) [(.int (0 : Int32))] (.int (0 : Int32))) (nab : a ≠ b) (g_b : n0 ≤ b) (hl0 : ¬ (255 : Int32) < c0_) :
    OCon l Z (⟨"java/lang/StringUTF16", "compress", "([CI[BII)I"⟩ : MethodName) jdk_52_method_21_code 7 (some .int) ws ({ frames := 0, cells := 0, slots := 0, locals := 0 } : Room) #[(.ref a), (.int (0 : Int32)), (.ref b), (.int (0 : Int32)), (.int (1 : Int32))] h0 (Q_rsc2 Z a ca b cb c0_ h0 n0) := by
  refine OCon.of (plainFor_of_name pn0) ?_
  intro p e s m below meth c s₁ Φ X0 hx hby hml hown hnm hret hlk hZ e0 hΦ
  have N0 := Fr.nil n0
  refine OGo.st (fun _ kz => castTop (ef_rsc2 m a (0 : Int32) b (0 : Int32) (1 : Int32)) kz) ?_
  have K0 := Keep.refl h0 [b]
  show OGo p.tables e below Φ (s₁.setTop (mkF m 0 #[.val (.ref a), .val (.int (0 : Int32)), .val (.ref b), .val (.int (0 : Int32)), .val (.int (1 : Int32)), .unset, .unset] []))
  refine OGo.st (fun _ kz => XS.iconst X0.here hx rfl (hb hby d_jdk_52_method_21_0) kz) ?_
  show OGo p.tables e below Φ (s₁.setTop (mkF m 1 #[.val (.ref a), .val (.int (0 : Int32)), .val (.ref b), .val (.int (0 : Int32)), .val (.int (1 : Int32)), .unset, .unset] [(.int (0 : Int32))]))
  refine OGo.st (fun _ kz => XS.istore X0.here hx rfl (hb hby d_jdk_52_method_21_1) rfl (l' := #[.val (.ref a), .val (.int (0 : Int32)), .val (.ref b), .val (.int (0 : Int32)), .val (.int (1 : Int32)), .val (.int (0 : Int32)), .unset]) rfl kz) ?_
  show OGo p.tables e below Φ (s₁.setTop (mkF m 3 #[.val (.ref a), .val (.int (0 : Int32)), .val (.ref b), .val (.int (0 : Int32)), .val (.int (1 : Int32)), .val (.int (0 : Int32)), .unset] []))
  refine OGo.st (fun _ kz => XS.iload X0.here hx rfl (hb hby d_jdk_52_method_21_3) rfl kz) ?_
  show OGo p.tables e below Φ (s₁.setTop (mkF m 5 #[.val (.ref a), .val (.int (0 : Int32)), .val (.ref b), .val (.int (0 : Int32)), .val (.int (1 : Int32)), .val (.int (0 : Int32)), .unset] [(.int (0 : Int32))]))
  refine OGo.st (fun _ kz => XS.iload X0.here hx rfl (hb hby d_jdk_52_method_21_5) rfl kz) ?_
  show OGo p.tables e below Φ (s₁.setTop (mkF m 7 #[.val (.ref a), .val (.int (0 : Int32)), .val (.ref b), .val (.int (0 : Int32)), .val (.int (1 : Int32)), .val (.int (0 : Int32)), .unset] [(.int (1 : Int32)), (.int (0 : Int32))]))
  refine OGo.st (fun _ kz => XS.icmpNo X0.here hx rfl (hb hby d_jdk_52_method_21_7) rfl (XT.ii_ge_f (by decide)) kz) ?_
  show OGo p.tables e below Φ (s₁.setTop (mkF m 10 #[.val (.ref a), .val (.int (0 : Int32)), .val (.ref b), .val (.int (0 : Int32)), .val (.int (1 : Int32)), .val (.int (0 : Int32)), .unset] []))
  refine OGo.st (fun _ kz => XS.aloadN X0.here hx rfl (hb hby d_jdk_52_method_21_10) rfl rfl kz) ?_
  show OGo p.tables e below Φ (s₁.setTop (mkF m 11 #[.val (.ref a), .val (.int (0 : Int32)), .val (.ref b), .val (.int (0 : Int32)), .val (.int (1 : Int32)), .val (.int (0 : Int32)), .unset] [(.ref a)]))
  refine OGo.st (fun _ kz => XS.iloadN X0.here hx rfl (hb hby d_jdk_52_method_21_11) rfl kz) ?_
  show OGo p.tables e below Φ (s₁.setTop (mkF m 12 #[.val (.ref a), .val (.int (0 : Int32)), .val (.ref b), .val (.int (0 : Int32)), .val (.int (1 : Int32)), .val (.int (0 : Int32)), .unset] [(.int (0 : Int32)), (.ref a)]))
  obtain ⟨cl1, Aq1, -, S1, M1, H1, -⟩ := id V_a
  have in1 : ¬ ((0 : Int32) < 0 ∨ cl1.slots.size ≤ (0 : Int32).toNatClampNeg) := inb_of S1 ⟨by decide, by decide⟩
  have at1 : cl1.slots[(0 : Int32).toNatClampNeg]? = some (.int c0_) := H1.at in1 rfl
  refine OGo.st (fun _ kz => X0.caload hx (by rw [e0]; exact Aq1.1) (State.isArrayOf_alike hZ.alike Aq1.2.1) Aq1.2.2 in1 at1 (g := (mkF m 12 #[.val (.ref a), .val (.int (0 : Int32)), .val (.ref b), .val (.int (0 : Int32)), .val (.int (1 : Int32)), .val (.int (0 : Int32)), .unset] [(.int (0 : Int32)), (.ref a)])) rfl rfl (hb hby d_jdk_52_method_21_12) _ kz) ?_
  show OGo p.tables e below Φ (s₁.setTop (mkF m 13 #[.val (.ref a), .val (.int (0 : Int32)), .val (.ref b), .val (.int (0 : Int32)), .val (.int (1 : Int32)), .val (.int (0 : Int32)), .unset] [(.int c0_)]))
  refine OGo.st (fun _ kz => XS.istore X0.here hx rfl (hb hby d_jdk_52_method_21_13) rfl (l' := #[.val (.ref a), .val (.int (0 : Int32)), .val (.ref b), .val (.int (0 : Int32)), .val (.int (1 : Int32)), .val (.int (0 : Int32)), .val (.int c0_)]) rfl kz) ?_
  show OGo p.tables e below Φ (s₁.setTop (mkF m 15 #[.val (.ref a), .val (.int (0 : Int32)), .val (.ref b), .val (.int (0 : Int32)), .val (.int (1 : Int32)), .val (.int (0 : Int32)), .val (.int c0_)] []))
  refine OGo.st (fun _ kz => XS.iload X0.here hx rfl (hb hby d_jdk_52_method_21_15) rfl kz) ?_
  show OGo p.tables e below Φ (s₁.setTop (mkF m 17 #[.val (.ref a), .val (.int (0 : Int32)), .val (.ref b), .val (.int (0 : Int32)), .val (.int (1 : Int32)), .val (.int (0 : Int32)), .val (.int c0_)] [(.int c0_)]))
  refine OGo.st (fun _ kz => XS.sipush X0.here hx rfl (hb hby d_jdk_52_method_21_17) kz) ?_
  show OGo p.tables e below Φ (s₁.setTop (mkF m 20 #[.val (.ref a), .val (.int (0 : Int32)), .val (.ref b), .val (.int (0 : Int32)), .val (.int (1 : Int32)), .val (.int (0 : Int32)), .val (.int c0_)] [(.int (255 : Int32)), (.int c0_)]))
  refine OGo.st (fun _ kz => XS.icmpYes X0.here hx rfl (pc0 := 20) (pc' := 26) rfl (hb hby d_jdk_52_method_21_20) rfl (XT.ii_le_t hl0) (by decide) (by decide) kz) ?_
  show OGo p.tables e below Φ (s₁.setTop (mkF m 26 #[.val (.ref a), .val (.int (0 : Int32)), .val (.ref b), .val (.int (0 : Int32)), .val (.int (1 : Int32)), .val (.int (0 : Int32)), .val (.int c0_)] []))
  refine OGo.st (fun _ kz => XS.aloadN X0.here hx rfl (hb hby d_jdk_52_method_21_26) rfl rfl kz) ?_
  show OGo p.tables e below Φ (s₁.setTop (mkF m 27 #[.val (.ref a), .val (.int (0 : Int32)), .val (.ref b), .val (.int (0 : Int32)), .val (.int (1 : Int32)), .val (.int (0 : Int32)), .val (.int c0_)] [(.ref b)]))
  refine OGo.st (fun _ kz => XS.iloadN X0.here hx rfl (hb hby d_jdk_52_method_21_27) rfl kz) ?_
  show OGo p.tables e below Φ (s₁.setTop (mkF m 28 #[.val (.ref a), .val (.int (0 : Int32)), .val (.ref b), .val (.int (0 : Int32)), .val (.int (1 : Int32)), .val (.int (0 : Int32)), .val (.int c0_)] [(.int (0 : Int32)), (.ref b)]))
  refine OGo.st (fun _ kz => XS.iload X0.here hx rfl (hb hby d_jdk_52_method_21_28) rfl kz) ?_
  show OGo p.tables e below Φ (s₁.setTop (mkF m 30 #[.val (.ref a), .val (.int (0 : Int32)), .val (.ref b), .val (.int (0 : Int32)), .val (.int (1 : Int32)), .val (.int (0 : Int32)), .val (.int c0_)] [(.int c0_), (.int (0 : Int32)), (.ref b)]))
  refine OGo.st (fun _ kz => XT.i2b X0.here hx rfl (hb hby d_jdk_52_method_21_30) rfl kz) ?_
  show OGo p.tables e below Φ (s₁.setTop (mkF m 31 #[.val (.ref a), .val (.int (0 : Int32)), .val (.ref b), .val (.int (0 : Int32)), .val (.int (1 : Int32)), .val (.int (0 : Int32)), .val (.int c0_)] [(.int (c0_.toInt8.toInt32)), (.int (0 : Int32)), (.ref b)]))
  obtain ⟨cl2, Aq2, Cq2, S2, M2, H2, G2⟩ := id V_b
  have in2 : ¬ ((0 : Int32) < 0 ∨ cl2.slots.size ≤ (0 : Int32).toNatClampNeg) := inb_of S2 ⟨by decide, by decide⟩
  obtain ⟨T2, h2, X2, e2, W2, st2⟩ := stB X0 hx hZ e0 Aq2 in2 (g := (mkF m 31 #[.val (.ref a), .val (.int (0 : Int32)), .val (.ref b), .val (.int (0 : Int32)), .val (.int (1 : Int32)), .val (.int (0 : Int32)), .val (.int c0_)] [(.int (c0_.toInt8.toInt32)), (.int (0 : Int32)), (.ref b)])) rfl rfl (hb hby d_jdk_52_method_21_31)
  have W2 : Wr h0 h2 b (0 : Int32).toNatClampNeg (.int (nar .byte (c0_.toInt8.toInt32))) := W2
  have F3 := V_a.other W2 nab
  have V2 : Arv Z h2 b cb .byte (1 : Int32) [(.int (nar .byte (c0_.toInt8.toInt32)))] (.int (0 : Int32)) := Arv.set Aq2 Cq2 S2 M2 H2 G2 (fits_nar_byte _) W2 0 (by decide) (by show 0 < 1; decide)
  have K2 := K0.wr W2 (Or.inl (List.mem_of_getElem? (i := 0) rfl))
  have N2 := Fr.snoc X2 N0 g_b
  have Zs2 : n0 ≤ h2.size := by rw [W2.size]; exact Z0
  refine OGo.st st2 ?_
  show OGo p.tables e below Φ (T2.setTop (mkF m 32 #[.val (.ref a), .val (.int (0 : Int32)), .val (.ref b), .val (.int (0 : Int32)), .val (.int (1 : Int32)), .val (.int (0 : Int32)), .val (.int c0_)] []))
  refine OGo.st (fun _ kz => XS.iinc X2.here hx rfl (hb hby d_jdk_52_method_21_32) rfl (l' := #[.val (.ref a), .val (.int ((0 : Int32) + (1 : Int32))), .val (.ref b), .val (.int (0 : Int32)), .val (.int (1 : Int32)), .val (.int (0 : Int32)), .val (.int c0_)]) rfl kz) ?_
  show OGo p.tables e below Φ (T2.setTop (mkF m 35 #[.val (.ref a), .val (.int (1 : Int32)), .val (.ref b), .val (.int (0 : Int32)), .val (.int (1 : Int32)), .val (.int (0 : Int32)), .val (.int c0_)] []))
  refine OGo.st (fun _ kz => XS.iinc X2.here hx rfl (hb hby d_jdk_52_method_21_35) rfl (l' := #[.val (.ref a), .val (.int (1 : Int32)), .val (.ref b), .val (.int ((0 : Int32) + (1 : Int32))), .val (.int (1 : Int32)), .val (.int (0 : Int32)), .val (.int c0_)]) rfl kz) ?_
  show OGo p.tables e below Φ (T2.setTop (mkF m 38 #[.val (.ref a), .val (.int (1 : Int32)), .val (.ref b), .val (.int (1 : Int32)), .val (.int (1 : Int32)), .val (.int (0 : Int32)), .val (.int c0_)] []))
  refine OGo.st (fun _ kz => XS.iinc X2.here hx rfl (hb hby d_jdk_52_method_21_38) rfl (l' := #[.val (.ref a), .val (.int (1 : Int32)), .val (.ref b), .val (.int (1 : Int32)), .val (.int (1 : Int32)), .val (.int ((0 : Int32) + (1 : Int32))), .val (.int c0_)]) rfl kz) ?_
  show OGo p.tables e below Φ (T2.setTop (mkF m 41 #[.val (.ref a), .val (.int (1 : Int32)), .val (.ref b), .val (.int (1 : Int32)), .val (.int (1 : Int32)), .val (.int (1 : Int32)), .val (.int c0_)] []))
  refine OGo.st (fun _ kz => XS.goto X2.here hx rfl (pc0 := 41) (pc' := 3) rfl (hb hby d_jdk_52_method_21_41) (by decide) (by decide) kz) ?_
  show OGo p.tables e below Φ (T2.setTop (mkF m 3 #[.val (.ref a), .val (.int (1 : Int32)), .val (.ref b), .val (.int (1 : Int32)), .val (.int (1 : Int32)), .val (.int (1 : Int32)), .val (.int c0_)] []))
  refine OGo.st (fun _ kz => XS.iload X2.here hx rfl (hb hby d_jdk_52_method_21_3) rfl kz) ?_
  show OGo p.tables e below Φ (T2.setTop (mkF m 5 #[.val (.ref a), .val (.int (1 : Int32)), .val (.ref b), .val (.int (1 : Int32)), .val (.int (1 : Int32)), .val (.int (1 : Int32)), .val (.int c0_)] [(.int (1 : Int32))]))
  refine OGo.st (fun _ kz => XS.iload X2.here hx rfl (hb hby d_jdk_52_method_21_5) rfl kz) ?_
  show OGo p.tables e below Φ (T2.setTop (mkF m 7 #[.val (.ref a), .val (.int (1 : Int32)), .val (.ref b), .val (.int (1 : Int32)), .val (.int (1 : Int32)), .val (.int (1 : Int32)), .val (.int c0_)] [(.int (1 : Int32)), (.int (1 : Int32))]))
  refine OGo.st (fun _ kz => XS.icmpYes X2.here hx rfl (pc0 := 7) (pc' := 44) rfl (hb hby d_jdk_52_method_21_7) rfl (XT.ii_ge_t (by decide)) (by decide) (by decide) kz) ?_
  show OGo p.tables e below Φ (T2.setTop (mkF m 44 #[.val (.ref a), .val (.int (1 : Int32)), .val (.ref b), .val (.int (1 : Int32)), .val (.int (1 : Int32)), .val (.int (1 : Int32)), .val (.int c0_)] []))
  refine OGo.st (fun _ kz => XS.iload X2.here hx rfl (hb hby d_jdk_52_method_21_44) rfl kz) ?_
  show OGo p.tables e below Φ (T2.setTop (mkF m 46 #[.val (.ref a), .val (.int (1 : Int32)), .val (.ref b), .val (.int (1 : Int32)), .val (.int (1 : Int32)), .val (.int (1 : Int32)), .val (.int c0_)] [(.int (1 : Int32))]))
  refine OGo.fin X2 hlk (v := (some (.int (1 : Int32)))) (fun h => by rw [hret] at h; cases h) (by decide) (by decide) (fun fs hr => X2.ireturnOut hx hret rfl (by simp) (hb hby d_jdk_52_method_21_46) hr) fun U eU hF => hΦ _ _ _ ?_ hF
  rw [eU, e2]
  show Q_rsc2 Z a ca b cb c0_ h0 n0 _ _ _
  exact ⟨rfl, N2, K2, V2⟩

theorem d_jdk_52_method_16_0 : decode jdk_52_method_16_code 0 = .ok (.iload_n 2, 1) := by decide +kernel
theorem d_jdk_52_method_16_1 : decode jdk_52_method_16_code 1 = .ok (.newarray .byte, 2) := by decide +kernel
theorem d_jdk_52_method_16_3 : decode jdk_52_method_16_code 3 = .ok (.astore_n 3, 1) := by decide +kernel
theorem d_jdk_52_method_16_4 : decode jdk_52_method_16_code 4 = .ok (.aload_n 0, 1) := by decide +kernel
theorem d_jdk_52_method_16_5 : decode jdk_52_method_16_code 5 = .ok (.iload_n 1, 1) := by decide +kernel
theorem d_jdk_52_method_16_6 : decode jdk_52_method_16_code 6 = .ok (.aload_n 3, 1) := by decide +kernel
theorem d_jdk_52_method_16_7 : decode jdk_52_method_16_code 7 = .ok (.iconst 0, 1) := by decide +kernel
theorem d_jdk_52_method_16_8 : decode jdk_52_method_16_code 8 = .ok (.iload_n 2, 1) := by decide +kernel
theorem d_jdk_52_method_16_9 : decode jdk_52_method_16_code 9 = .ok (.invokestatic 115, 3) := by decide +kernel
theorem pd0 : parseMethodDescriptor "([CI[BII)I" = some ⟨[(.array .char), .int, (.array .byte), .int, .int], some .int⟩ := by decide +kernel
theorem d_jdk_52_method_16_12 : decode jdk_52_method_16_code 12 = .ok (.istore 4, 2) := by decide +kernel
theorem d_jdk_52_method_16_14 : decode jdk_52_method_16_code 14 = .ok (.iload 4, 2) := by decide +kernel
theorem d_jdk_52_method_16_16 : decode jdk_52_method_16_code 16 = .ok (.iload_n 2, 1) := by decide +kernel
theorem d_jdk_52_method_16_17 : decode jdk_52_method_16_code 17 = .ok (.if_icmp .eq 40, 3) := by decide +kernel
theorem d_jdk_52_method_16_57 : decode jdk_52_method_16_code 57 = .ok (.aload_n 3, 1) := by decide +kernel
theorem d_jdk_52_method_16_58 : decode jdk_52_method_16_code 58 = .ok (.areturn, 1) := by decide +kernel
theorem ef_rsc3 (m : MethodId) (x0 : Addr) (x1 : Int32) (x2 : Int32) : entryFrame m #[(.ref x0), (.int x1), (.int x2)] 6 = mkF m 0 #[.val (.ref x0), .val (.int x1), .val (.int x2), .unset, .unset, .unset] [] := by first | (simp [entryFrame, mkF, argsToLocals, Value.category]; done) | rfl
def Q_rsc3 (Z : State) (a : Addr) (ca : ClassId) (c0_ : Int32) (h0 : Heap) (n0 : Nat) (v : Option Value) (h : Heap) (L : List Loc) : Prop := ∃ b cb, v = some (.ref b) ∧ Fr n0 L ∧ Keep h0 h [] ∧ Arv Z h b cb .byte (1 : Int32) [(.int (nar .byte (c0_.toInt8.toInt32)))] (.int (0 : Int32)) ∧ h0.size ≤ b
set_option maxRecDepth 65536 in
set_option maxHeartbeats 40000000 in
theorem rsc3 (l : Launch) (Z : State) (a0 : Array Value) (hw : ∀ d ∈ tables_1, d.before a0 Z = true) (ws : List Jvm.Cond) (a : Addr) (ca : ClassId) (c0_ : Int32) (h0 : Heap) (n0 : Nat) (Z0 : n0 ≤ h0.size) (V_a : Arv Z h0 a ca .char (1 : Int32) [(.int c0_)] (.int (0 : Int32))) (hl0 : ¬ (255 : Int32) < c0_) :
    OCon l Z (⟨"java/lang/StringUTF16", "compress", "([CII)[B"⟩ : MethodName) jdk_52_method_16_code 6 (some (.array .byte)) ws ({ frames := 1, cells := 1, slots := 1, locals := 18 } : Room) #[(.ref a), (.int (0 : Int32)), (.int (1 : Int32))] h0 (Q_rsc3 Z a ca c0_ h0 n0) := by
  refine OCon.of (plainFor_of_name pn0) ?_
  intro p e s m below meth c s₁ Φ X0 hx hby hml hown hnm hret hlk hZ e0 hΦ
  have N0 := Fr.nil n0
  refine OGo.st (fun _ kz => castTop (ef_rsc3 m a (0 : Int32) (1 : Int32)) kz) ?_
  have K0 := Keep.refl h0 []
  show OGo p.tables e below Φ (s₁.setTop (mkF m 0 #[.val (.ref a), .val (.int (0 : Int32)), .val (.int (1 : Int32)), .unset, .unset, .unset] []))
  refine OGo.st (fun _ kz => XS.iloadN X0.here hx rfl (hb hby d_jdk_52_method_16_0) rfl kz) ?_
  show OGo p.tables e below Φ (s₁.setTop (mkF m 1 #[.val (.ref a), .val (.int (0 : Int32)), .val (.int (1 : Int32)), .unset, .unset, .unset] [(.int (1 : Int32))]))
  obtain ⟨T1, h1, c1, X1, e1, E1, Ar1, st1⟩ := newP (aty := .byte) X0 hx hZ (ow19 hw) e0 (g := (mkF m 1 #[.val (.ref a), .val (.int (0 : Int32)), .val (.int (1 : Int32)), .unset, .unset, .unset] [(.int (1 : Int32))])) rfl (hb hby d_jdk_52_method_16_1) rfl (by decide) (cap := 1) (by decide) (by decide) (by decide) (by decide)
  obtain ⟨b1, g1⟩ : ∃ z, z = h0.size := ⟨_, rfl⟩
  rw [← g1] at Ar1 st1
  have ne1_a : a ≠ b1 := by rw [g1]; exact Nat.ne_of_lt V_a.lt
  have F2 := V_a.ext E1
  have gb1 : n0 ≤ b1 := Nat.le_trans Z0 (Nat.le_of_eq g1.symm)
  have sz1 : h0.size ≤ b1 := Nat.le_trans K0.1 (Nat.le_of_eq g1.symm)
  have K1 := K0.ext E1
  have Zs1 : n0 ≤ h1.size := Nat.le_trans Z0 E1.1
  have V1 : Arv Z h1 b1 c1 .byte (1 : Int32) [(.int (0 : Int32))] (.int (0 : Int32)) := (Arv.new Ar1 (by decide)).pad (pad_rep [] _ 1)
  refine OGo.st st1 ?_
  show OGo p.tables e below Φ (T1.setTop (mkF m 3 #[.val (.ref a), .val (.int (0 : Int32)), .val (.int (1 : Int32)), .unset, .unset, .unset] [(.ref b1)]))
  refine OGo.st (fun _ kz => XS.astoreN X1.here hx rfl (hb hby d_jdk_52_method_16_3) rfl rfl (l' := #[.val (.ref a), .val (.int (0 : Int32)), .val (.int (1 : Int32)), .val (.ref b1), .unset, .unset]) rfl kz) ?_
  show OGo p.tables e below Φ (T1.setTop (mkF m 4 #[.val (.ref a), .val (.int (0 : Int32)), .val (.int (1 : Int32)), .val (.ref b1), .unset, .unset] []))
  refine OGo.st (fun _ kz => XS.aloadN X1.here hx rfl (hb hby d_jdk_52_method_16_4) rfl rfl kz) ?_
  show OGo p.tables e below Φ (T1.setTop (mkF m 5 #[.val (.ref a), .val (.int (0 : Int32)), .val (.int (1 : Int32)), .val (.ref b1), .unset, .unset] [(.ref a)]))
  refine OGo.st (fun _ kz => XS.iloadN X1.here hx rfl (hb hby d_jdk_52_method_16_5) rfl kz) ?_
  show OGo p.tables e below Φ (T1.setTop (mkF m 6 #[.val (.ref a), .val (.int (0 : Int32)), .val (.int (1 : Int32)), .val (.ref b1), .unset, .unset] [(.int (0 : Int32)), (.ref a)]))
  refine OGo.st (fun _ kz => XS.aloadN X1.here hx rfl (hb hby d_jdk_52_method_16_6) rfl rfl kz) ?_
  show OGo p.tables e below Φ (T1.setTop (mkF m 7 #[.val (.ref a), .val (.int (0 : Int32)), .val (.int (1 : Int32)), .val (.ref b1), .unset, .unset] [(.ref b1), (.int (0 : Int32)), (.ref a)]))
  refine OGo.st (fun _ kz => XS.iconst X1.here hx rfl (hb hby d_jdk_52_method_16_7) kz) ?_
  show OGo p.tables e below Φ (T1.setTop (mkF m 8 #[.val (.ref a), .val (.int (0 : Int32)), .val (.int (1 : Int32)), .val (.ref b1), .unset, .unset] [(.int (0 : Int32)), (.ref b1), (.int (0 : Int32)), (.ref a)]))
  refine OGo.st (fun _ kz => XS.iloadN X1.here hx rfl (hb hby d_jdk_52_method_16_8) rfl kz) ?_
  show OGo p.tables e below Φ (T1.setTop (mkF m 9 #[.val (.ref a), .val (.int (0 : Int32)), .val (.int (1 : Int32)), .val (.ref b1), .unset, .unset] [(.int (1 : Int32)), (.int (0 : Int32)), (.ref b1), (.int (0 : Int32)), (.ref a)]))
  obtain ⟨_, T3, L3, X3, hQ3, st3⟩ := own_callSt X1 hx hZ hown (ow20 hw) (ow21 hw) (ow17 hw) (ow22 hw) (by decide) (rsc2 l Z a0 hw [] a ca b1 c1 c0_ h1 n0 Zs1 F2 V1 ne1_a gb1 hl0) e1 (W := 0) (by decide) (by decide) (by decide) (by decide) (pc := 9) (ls := #[.val (.ref a), .val (.int (0 : Int32)), .val (.int (1 : Int32)), .val (.ref b1), .unset, .unset]) (stk := [(.int (1 : Int32)), (.int (0 : Int32)), (.ref b1), (.int (0 : Int32)), (.ref a)]) (by rw [hml]; rfl) (argsL := [(.ref a), (.int (0 : Int32)), (.ref b1), (.int (0 : Int32)), (.int (1 : Int32))]) (rest := []) (lenOf pd0 rfl) rfl rfl (Nat.le_of_eq rfl) (hb hby d_jdk_52_method_16_9)
  obtain ⟨rfl, Nq3, Kq3, Vq3⟩ := hQ3
  have N3 := Fr.app N0 Nq3
  have Zs3 : n0 ≤ T3.heap.size := Nat.le_trans Zs1 Kq3.1
  have F4 := F2.keep Kq3 (ninS ne1_a nin0)
  have K3 := K1.trans Kq3 (allS (Or.inr sz1) all0)
  refine OGo.st st3 ?_
  show OGo p.tables e below Φ (T3.setTop (mkF m 12 #[.val (.ref a), .val (.int (0 : Int32)), .val (.int (1 : Int32)), .val (.ref b1), .unset, .unset] [(.int (1 : Int32))]))
  refine OGo.st (fun _ kz => XS.istore X3.here hx rfl (hb hby d_jdk_52_method_16_12) rfl (l' := #[.val (.ref a), .val (.int (0 : Int32)), .val (.int (1 : Int32)), .val (.ref b1), .val (.int (1 : Int32)), .unset]) rfl kz) ?_
  show OGo p.tables e below Φ (T3.setTop (mkF m 14 #[.val (.ref a), .val (.int (0 : Int32)), .val (.int (1 : Int32)), .val (.ref b1), .val (.int (1 : Int32)), .unset] []))
  refine OGo.st (fun _ kz => XS.iload X3.here hx rfl (hb hby d_jdk_52_method_16_14) rfl kz) ?_
  show OGo p.tables e below Φ (T3.setTop (mkF m 16 #[.val (.ref a), .val (.int (0 : Int32)), .val (.int (1 : Int32)), .val (.ref b1), .val (.int (1 : Int32)), .unset] [(.int (1 : Int32))]))
  refine OGo.st (fun _ kz => XS.iloadN X3.here hx rfl (hb hby d_jdk_52_method_16_16) rfl kz) ?_
  show OGo p.tables e below Φ (T3.setTop (mkF m 17 #[.val (.ref a), .val (.int (0 : Int32)), .val (.int (1 : Int32)), .val (.ref b1), .val (.int (1 : Int32)), .unset] [(.int (1 : Int32)), (.int (1 : Int32))]))
  refine OGo.st (fun _ kz => XS.icmpYes X3.here hx rfl (pc0 := 17) (pc' := 57) rfl (hb hby d_jdk_52_method_16_17) rfl (XT.ii_eq_t (by decide)) (by decide) (by decide) kz) ?_
  show OGo p.tables e below Φ (T3.setTop (mkF m 57 #[.val (.ref a), .val (.int (0 : Int32)), .val (.int (1 : Int32)), .val (.ref b1), .val (.int (1 : Int32)), .unset] []))
  refine OGo.st (fun _ kz => XS.aloadN X3.here hx rfl (hb hby d_jdk_52_method_16_57) rfl rfl kz) ?_
  show OGo p.tables e below Φ (T3.setTop (mkF m 58 #[.val (.ref a), .val (.int (0 : Int32)), .val (.int (1 : Int32)), .val (.ref b1), .val (.int (1 : Int32)), .unset] [(.ref b1)]))
  refine OGo.fin X3 hlk (v := (some (.ref b1))) (fun h => by rw [hret] at h; cases h) (by decide) (by decide) (fun fs hr => X3.areturnOut hx rfl hret rfl (hb hby d_jdk_52_method_16_58) hr) fun U eU hF => hΦ _ _ _ ?_ hF
  rw [eU]
  show Q_rsc3 Z a ca c0_ h0 n0 _ _ _
  exact ⟨_, _, rfl, N3, K3, Vq3, sz1⟩

theorem d_jdk_52_method_15_0 : decode jdk_52_method_15_code 0 = .ok (.iload_n 1, 1) := by decide +kernel
theorem d_jdk_52_method_15_1 : decode jdk_52_method_15_code 1 = .ok (.aload_n 0, 1) := by decide +kernel
theorem d_jdk_52_method_15_2 : decode jdk_52_method_15_code 2 = .ok (.arraylength, 1) := by decide +kernel
theorem d_jdk_52_method_15_3 : decode jdk_52_method_15_code 3 = .ok (.isub, 1) := by decide +kernel
theorem d_jdk_52_method_15_4 : decode jdk_52_method_15_code 4 = .ok (.bipush 31, 2) := by decide +kernel
theorem d_jdk_52_method_15_6 : decode jdk_52_method_15_code 6 = .ok (.iushr, 1) := by decide +kernel
theorem d_jdk_52_method_15_7 : decode jdk_52_method_15_code 7 = .ok (.i2b, 1) := by decide +kernel
theorem d_jdk_52_method_15_8 : decode jdk_52_method_15_code 8 = .ok (.ireturn, 1) := by decide +kernel
theorem ef_rscf (m : MethodId) (x0 : Addr) (x1 : Int32) : entryFrame m #[(.ref x0), (.int x1)] 2 = mkF m 0 #[.val (.ref x0), .val (.int x1)] [] := by first | (simp [entryFrame, mkF, argsToLocals, Value.category]; done) | rfl
def Q_rscf (Z : State) (b : Addr) (cb : ClassId) (c0_ : Int32) (h0 : Heap) (n0 : Nat) (v : Option Value) (h : Heap) (L : List Loc) : Prop := v = some (.int (0 : Int32)) ∧ Fr n0 L ∧ h = h0
set_option maxRecDepth 65536 in
set_option maxHeartbeats 40000000 in
theorem rscf (l : Launch) (Z : State) (a0 : Array Value) (hw : ∀ d ∈ tables_1, d.before a0 Z = true) (ws : List Jvm.Cond) (b : Addr) (cb : ClassId) (c0_ : Int32) (h0 : Heap) (n0 : Nat) (Z0 : n0 ≤ h0.size) (V_b : Arv Z h0 b cb .byte (1 : Int32) [(.int (nar .byte (c0_.toInt8.toInt32)))] (.int (0 : Int32))) :
    OCon l Z (⟨"java/lang/StringUTF16", "coderFromArrayLen", "([BI)B"⟩ : MethodName) jdk_52_method_15_code 2 (some .byte) ws ({ frames := 0, cells := 0, slots := 0, locals := 0 } : Room) #[(.ref b), (.int (1 : Int32))] h0 (Q_rscf Z b cb c0_ h0 n0) := by
  refine OCon.of (plainFor_of_name pn0) ?_
  intro p e s m below meth c s₁ Φ X0 hx hby hml hown hnm hret hlk hZ e0 hΦ
  have N0 := Fr.nil n0
  refine OGo.st (fun _ kz => castTop (ef_rscf m b (1 : Int32)) kz) ?_
  show OGo p.tables e below Φ (s₁.setTop (mkF m 0 #[.val (.ref b), .val (.int (1 : Int32))] []))
  refine OGo.st (fun _ kz => XS.iloadN X0.here hx rfl (hb hby d_jdk_52_method_15_0) rfl kz) ?_
  show OGo p.tables e below Φ (s₁.setTop (mkF m 1 #[.val (.ref b), .val (.int (1 : Int32))] [(.int (1 : Int32))]))
  refine OGo.st (fun _ kz => XS.aloadN X0.here hx rfl (hb hby d_jdk_52_method_15_1) rfl rfl kz) ?_
  show OGo p.tables e below Φ (s₁.setTop (mkF m 2 #[.val (.ref b), .val (.int (1 : Int32))] [(.ref b), (.int (1 : Int32))]))
  obtain ⟨cl1, Aq1, -, S1, M1, -, -⟩ := id V_b
  refine OGo.st (fun _ kz => X0.arraylength hx (by rw [e0]; exact Aq1.1) (State.isArrayOf_alike hZ.alike Aq1.2.1) (g := (mkF m 2 #[.val (.ref b), .val (.int (1 : Int32))] [(.ref b), (.int (1 : Int32))])) rfl rfl (hb hby d_jdk_52_method_15_2) _ kz) ?_
  rw [len_of S1 M1]
  show OGo p.tables e below Φ (s₁.setTop (mkF m 3 #[.val (.ref b), .val (.int (1 : Int32))] [(.int (1 : Int32)), (.int (1 : Int32))]))
  refine OGo.st (fun _ kz => XS.isub X0.here hx rfl (hb hby d_jdk_52_method_15_3) rfl kz) ?_
  show OGo p.tables e below Φ (s₁.setTop (mkF m 4 #[.val (.ref b), .val (.int (1 : Int32))] [(.int (0 : Int32))]))
  refine OGo.st (fun _ kz => XS.bipush X0.here hx rfl (hb hby d_jdk_52_method_15_4) kz) ?_
  show OGo p.tables e below Φ (s₁.setTop (mkF m 6 #[.val (.ref b), .val (.int (1 : Int32))] [(.int (31 : Int32)), (.int (0 : Int32))]))
  refine OGo.st (fun _ kz => XT.iushr X0.here hx rfl (hb hby d_jdk_52_method_15_6) rfl kz) ?_
  show OGo p.tables e below Φ (s₁.setTop (mkF m 7 #[.val (.ref b), .val (.int (1 : Int32))] [(.int (0 : Int32))]))
  refine OGo.st (fun _ kz => XT.i2b X0.here hx rfl (hb hby d_jdk_52_method_15_7) rfl kz) ?_
  show OGo p.tables e below Φ (s₁.setTop (mkF m 8 #[.val (.ref b), .val (.int (1 : Int32))] [(.int (0 : Int32))]))
  refine OGo.fin X0 hlk (v := (some (.int (0 : Int32)))) (fun h => by rw [hret] at h; cases h) (by decide) (by decide) (fun fs hr => X0.ireturnOut hx hret rfl (by simp) (hb hby d_jdk_52_method_15_8) hr) fun U eU hF => hΦ _ _ _ ?_ hF
  rw [eU, e0]
  show Q_rscf Z b cb c0_ h0 n0 _ _ _
  exact ⟨rfl, N0, rfl⟩

theorem pn1 : plainName "java/lang/String" = true := by first | (simp [plainName, overriddenIn]; done) | decide +kernel
theorem d_jdk_42_method_149_0 : decode jdk_42_method_149_code 0 = .ok (.aload_n 0, 1) := by decide +kernel
theorem d_jdk_42_method_149_1 : decode jdk_42_method_149_code 1 = .ok (.invokespecial 1, 3) := by decide +kernel
theorem d_jdk_42_method_149_4 : decode jdk_42_method_149_code 4 = .ok (.iload_n 3, 1) := by decide +kernel
theorem d_jdk_42_method_149_5 : decode jdk_42_method_149_code 5 = .ok (.ifCond .ne 22, 3) := by decide +kernel
theorem d_jdk_42_method_149_27 : decode jdk_42_method_149_code 27 = .ok (.getstatic 38, 3) := by decide +kernel
theorem d_jdk_42_method_149_30 : decode jdk_42_method_149_code 30 = .ok (.ifCond .eq 28, 3) := by decide +kernel
theorem d_jdk_42_method_149_33 : decode jdk_42_method_149_code 33 = .ok (.aload_n 1, 1) := by decide +kernel
theorem d_jdk_42_method_149_34 : decode jdk_42_method_149_code 34 = .ok (.iload_n 2, 1) := by decide +kernel
theorem d_jdk_42_method_149_35 : decode jdk_42_method_149_code 35 = .ok (.iload_n 3, 1) := by decide +kernel
theorem d_jdk_42_method_149_36 : decode jdk_42_method_149_code 36 = .ok (.invokestatic 177, 3) := by decide +kernel
theorem pd1 : parseMethodDescriptor "([CII)[B" = some ⟨[(.array .char), .int, .int], some (.array .byte)⟩ := by decide +kernel
theorem d_jdk_42_method_149_39 : decode jdk_42_method_149_code 39 = .ok (.astore 5, 2) := by decide +kernel
theorem d_jdk_42_method_149_41 : decode jdk_42_method_149_code 41 = .ok (.aload_n 0, 1) := by decide +kernel
theorem d_jdk_42_method_149_42 : decode jdk_42_method_149_code 42 = .ok (.aload 5, 2) := by decide +kernel
theorem d_jdk_42_method_149_44 : decode jdk_42_method_149_code 44 = .ok (.iload_n 3, 1) := by decide +kernel
theorem d_jdk_42_method_149_45 : decode jdk_42_method_149_code 45 = .ok (.invokestatic 47, 3) := by decide +kernel
theorem pd2 : parseMethodDescriptor "([BI)B" = some ⟨[(.array .byte), .int], some .byte⟩ := by decide +kernel
theorem d_jdk_42_method_149_48 : decode jdk_42_method_149_code 48 = .ok (.putfield 15, 3) := by decide +kernel
theorem d_jdk_42_method_149_51 : decode jdk_42_method_149_code 51 = .ok (.aload_n 0, 1) := by decide +kernel
theorem d_jdk_42_method_149_52 : decode jdk_42_method_149_code 52 = .ok (.aload 5, 2) := by decide +kernel
theorem d_jdk_42_method_149_54 : decode jdk_42_method_149_code 54 = .ok (.putfield 9, 3) := by decide +kernel
theorem d_jdk_42_method_149_57 : decode jdk_42_method_149_code 57 = .ok (.return_, 1) := by decide +kernel
theorem ef_rsi4 (m : MethodId) (x0 : Addr) (x1 : Addr) (x2 : Int32) (x3 : Int32) : entryFrame m #[(.ref x0), (.ref x1), (.int x2), (.int x3), .null] 6 = mkF m 0 #[.val (.ref x0), .val (.ref x1), .val (.int x2), .val (.int x3), .val .null, .unset] [] := by first | (simp [entryFrame, mkF, argsToLocals, Value.category]; done) | rfl
def Q_rsi4 (Z : State) (s_ : Addr) (a : Addr) (ca : ClassId) (qc : Int32) (c0_ : Int32) (h0 : Heap) (n0 : Nat) (v : Option Value) (h : Heap) (L : List Loc) : Prop := v = none ∧ Fr n0 L ∧ Keep h0 h [s_] ∧ Exa Z h s_ "java/lang/String" ∧ ∃ b cb, Fld Z h s_ "java/lang/String" "value" "[B" (.ref b) ∧ Fld Z h s_ "java/lang/String" "coder" "B" (.int (0 : Int32)) ∧ Arv Z h b cb .byte (1 : Int32) [(.int (nar .byte (c0_.toInt8.toInt32)))] (.int (0 : Int32)) ∧ h0.size ≤ b
set_option maxRecDepth 65536 in
set_option maxHeartbeats 40000000 in
theorem rsi4 (l : Launch) (Z : State) (a0 : Array Value) (hw : ∀ d ∈ tables_1, d.before a0 Z = true) (ws : List Jvm.Cond) (s_ : Addr) (a : Addr) (ca : ClassId) (qc : Int32) (c0_ : Int32) (h0 : Heap) (n0 : Nat) (Z0 : n0 ≤ h0.size) (E_s : Exa Z h0 s_ "java/lang/String") (g_s : n0 ≤ s_) (F_v : Fld Z h0 s_ "java/lang/String" "value" "[B" .null) (F_c : Fld Z h0 s_ "java/lang/String" "coder" "B" (.int (0 : Int32))) (V_a : Arv Z h0 a ca .char (1 : Int32) [(.int c0_)] (.int (0 : Int32))) (nsa : s_ ≠ a) (S_q : Sta Z h0 "java/lang/String" "COMPACT_STRINGS" "Z" (.int qc)) (hq : ¬ qc = 0) (hl0 : ¬ (255 : Int32) < c0_) :
    OCon l Z (⟨"java/lang/String", "<init>", "([CIILjava/lang/Void;)V"⟩ : MethodName) jdk_42_method_149_code 6 none ws ({ frames := 2, cells := 1, slots := 1, locals := 35 } : Room) #[(.ref s_), (.ref a), (.int (0 : Int32)), (.int (1 : Int32)), .null] h0 (Q_rsi4 Z s_ a ca qc c0_ h0 n0) := by
  refine OCon.of (plainFor_of_name pn1) ?_
  intro p e s m below meth c s₁ Φ X0 hx hby hml hown hnm hret hlk hZ e0 hΦ
  have N0 := Fr.nil n0
  refine OGo.st (fun _ kz => castTop (ef_rsi4 m s_ a (0 : Int32) (1 : Int32)) kz) ?_
  have K0 := Keep.refl h0 [s_]
  show OGo p.tables e below Φ (s₁.setTop (mkF m 0 #[.val (.ref s_), .val (.ref a), .val (.int (0 : Int32)), .val (.int (1 : Int32)), .val .null, .unset] []))
  refine OGo.st (fun _ kz => XS.aloadN X0.here hx rfl (hb hby d_jdk_42_method_149_0) rfl rfl kz) ?_
  show OGo p.tables e below Φ (s₁.setTop (mkF m 1 #[.val (.ref s_), .val (.ref a), .val (.int (0 : Int32)), .val (.int (1 : Int32)), .val .null, .unset] [(.ref s_)]))
  obtain ⟨T1, X1, e1, st1⟩ := initO X0 hx hZ hown (ow11 hw) (ow12 hw) (ow13 hw) e0 (g := (mkF m 1 #[.val (.ref s_), .val (.ref a), .val (.int (0 : Int32)), .val (.int (1 : Int32)), .val .null, .unset] [(.ref s_)])) rfl (by rw [hml]; rfl) rfl (hb hby d_jdk_42_method_149_1) (by decide) (W := 0) (Nat.le_of_eq rfl) (by decide)
  refine OGo.st st1 ?_
  show OGo p.tables e below Φ (T1.setTop (mkF m 4 #[.val (.ref s_), .val (.ref a), .val (.int (0 : Int32)), .val (.int (1 : Int32)), .val .null, .unset] []))
  refine OGo.st (fun _ kz => XS.iloadN X1.here hx rfl (hb hby d_jdk_42_method_149_4) rfl kz) ?_
  show OGo p.tables e below Φ (T1.setTop (mkF m 5 #[.val (.ref s_), .val (.ref a), .val (.int (0 : Int32)), .val (.int (1 : Int32)), .val .null, .unset] [(.int (1 : Int32))]))
  refine OGo.st (fun _ kz => XS.ifYes X1.here hx rfl (pc0 := 5) (pc' := 27) rfl (hb hby d_jdk_42_method_149_5) rfl (XT.i0_ne_t (by decide)) (by decide) (by decide) kz) ?_
  show OGo p.tables e below Φ (T1.setTop (mkF m 27 #[.val (.ref s_), .val (.ref a), .val (.int (0 : Int32)), .val (.int (1 : Int32)), .val .null, .unset] []))
  obtain ⟨T2, X2, e2, st2⟩ := getS2 X1 hx hZ hown (host := "") (Or.inl (ow14 hw)) Via.refl e1 S_q (g := (mkF m 27 #[.val (.ref s_), .val (.ref a), .val (.int (0 : Int32)), .val (.int (1 : Int32)), .val .null, .unset] [])) rfl (hb hby d_jdk_42_method_149_27)
  refine OGo.st st2 ?_
  show OGo p.tables e below Φ (T2.setTop (mkF m 30 #[.val (.ref s_), .val (.ref a), .val (.int (0 : Int32)), .val (.int (1 : Int32)), .val .null, .unset] [(.int qc)]))
  refine OGo.st (fun _ kz => XS.ifNo X2.here hx rfl (hb hby d_jdk_42_method_149_30) rfl (XT.i0_eq_f hq) kz) ?_
  show OGo p.tables e below Φ (T2.setTop (mkF m 33 #[.val (.ref s_), .val (.ref a), .val (.int (0 : Int32)), .val (.int (1 : Int32)), .val .null, .unset] []))
  refine OGo.st (fun _ kz => XS.aloadN X2.here hx rfl (hb hby d_jdk_42_method_149_33) rfl rfl kz) ?_
  show OGo p.tables e below Φ (T2.setTop (mkF m 34 #[.val (.ref s_), .val (.ref a), .val (.int (0 : Int32)), .val (.int (1 : Int32)), .val .null, .unset] [(.ref a)]))
  refine OGo.st (fun _ kz => XS.iloadN X2.here hx rfl (hb hby d_jdk_42_method_149_34) rfl kz) ?_
  show OGo p.tables e below Φ (T2.setTop (mkF m 35 #[.val (.ref s_), .val (.ref a), .val (.int (0 : Int32)), .val (.int (1 : Int32)), .val .null, .unset] [(.int (0 : Int32)), (.ref a)]))
  refine OGo.st (fun _ kz => XS.iloadN X2.here hx rfl (hb hby d_jdk_42_method_149_35) rfl kz) ?_
  show OGo p.tables e below Φ (T2.setTop (mkF m 36 #[.val (.ref s_), .val (.ref a), .val (.int (0 : Int32)), .val (.int (1 : Int32)), .val .null, .unset] [(.int (1 : Int32)), (.int (0 : Int32)), (.ref a)]))
  obtain ⟨_, T3, L3, X3, hQ3, st3⟩ := own_callSt X2 hx hZ hown (ow15 hw) (ow16 hw) (ow17 hw) (ow18 hw) (by decide) (rsc3 l Z a0 hw [] a ca c0_ h0 n0 Z0 V_a hl0) e2 (W := 0) (by decide) (by decide) (by decide) (by decide) (pc := 36) (ls := #[.val (.ref s_), .val (.ref a), .val (.int (0 : Int32)), .val (.int (1 : Int32)), .val .null, .unset]) (stk := [(.int (1 : Int32)), (.int (0 : Int32)), (.ref a)]) (by rw [hml]; rfl) (argsL := [(.ref a), (.int (0 : Int32)), (.int (1 : Int32))]) (rest := []) (lenOf pd1 rfl) rfl rfl (Nat.le_of_eq rfl) (hb hby d_jdk_42_method_149_36)
  obtain ⟨b3, cb3, rfl, Nq3, Kq3, Vq3, hz3⟩ := hQ3
  have nq3_a : a ≠ b3 := Nat.ne_of_lt (Nat.lt_of_lt_of_le V_a.lt hz3)
  have nq3_s_ : s_ ≠ b3 := Nat.ne_of_lt (Nat.lt_of_lt_of_le E_s.lt hz3)
  have gq3 : n0 ≤ b3 := Nat.le_trans Z0 hz3
  have sq3 : h0.size ≤ b3 := Nat.le_trans K0.1 hz3
  have N3 := Fr.app N0 Nq3
  have Zs3 : n0 ≤ T3.heap.size := Nat.le_trans Z0 Kq3.1
  have F4 := E_s.keep Kq3
  have F5 := F_v.keep Kq3 nin0
  have F6 := F_c.keep Kq3 nin0
  have F7 := V_a.keep Kq3 nin0
  have K3 := K0.trans Kq3 all0
  refine OGo.st st3 ?_
  show OGo p.tables e below Φ (T3.setTop (mkF m 39 #[.val (.ref s_), .val (.ref a), .val (.int (0 : Int32)), .val (.int (1 : Int32)), .val .null, .unset] [(.ref b3)]))
  refine OGo.st (fun _ kz => XS.astore X3.here hx rfl (hb hby d_jdk_42_method_149_39) rfl rfl (l' := #[.val (.ref s_), .val (.ref a), .val (.int (0 : Int32)), .val (.int (1 : Int32)), .val .null, .val (.ref b3)]) rfl kz) ?_
  show OGo p.tables e below Φ (T3.setTop (mkF m 41 #[.val (.ref s_), .val (.ref a), .val (.int (0 : Int32)), .val (.int (1 : Int32)), .val .null, .val (.ref b3)] []))
  refine OGo.st (fun _ kz => XS.aloadN X3.here hx rfl (hb hby d_jdk_42_method_149_41) rfl rfl kz) ?_
  show OGo p.tables e below Φ (T3.setTop (mkF m 42 #[.val (.ref s_), .val (.ref a), .val (.int (0 : Int32)), .val (.int (1 : Int32)), .val .null, .val (.ref b3)] [(.ref s_)]))
  refine OGo.st (fun _ kz => XS.aload X3.here hx rfl (hb hby d_jdk_42_method_149_42) rfl rfl kz) ?_
  show OGo p.tables e below Φ (T3.setTop (mkF m 44 #[.val (.ref s_), .val (.ref a), .val (.int (0 : Int32)), .val (.int (1 : Int32)), .val .null, .val (.ref b3)] [(.ref b3), (.ref s_)]))
  refine OGo.st (fun _ kz => XS.iloadN X3.here hx rfl (hb hby d_jdk_42_method_149_44) rfl kz) ?_
  show OGo p.tables e below Φ (T3.setTop (mkF m 45 #[.val (.ref s_), .val (.ref a), .val (.int (0 : Int32)), .val (.int (1 : Int32)), .val .null, .val (.ref b3)] [(.int (1 : Int32)), (.ref b3), (.ref s_)]))
  obtain ⟨_, T8, L8, X8, hQ8, st8⟩ := own_callSt X3 hx hZ hown (ow23 hw) (ow24 hw) (ow17 hw) (ow25 hw) (by decide) (rscf l Z a0 hw [] b3 cb3 c0_ T3.heap n0 Zs3 Vq3) rfl (W := 1) (by decide) (by decide) (by decide) (by decide) (pc := 45) (ls := #[.val (.ref s_), .val (.ref a), .val (.int (0 : Int32)), .val (.int (1 : Int32)), .val .null, .val (.ref b3)]) (stk := [(.int (1 : Int32)), (.ref b3), (.ref s_)]) (by rw [hml]; rfl) (argsL := [(.ref b3), (.int (1 : Int32))]) (rest := [(.ref s_)]) (lenOf pd2 rfl) rfl rfl (Nat.le_of_eq rfl) (hb hby d_jdk_42_method_149_45)
  obtain ⟨rfl, Nq8, e8⟩ := hQ8
  have N8 := Fr.app N3 Nq8
  refine OGo.st st8 ?_
  show OGo p.tables e below Φ (T8.setTop (mkF m 48 #[.val (.ref s_), .val (.ref a), .val (.int (0 : Int32)), .val (.int (1 : Int32)), .val .null, .val (.ref b3)] [(.int (0 : Int32)), (.ref s_)]))
  obtain ⟨T9, h9, X9, e9, W9, st9⟩ := putF X8 hx hZ hown (host := "") (Or.inl (ow26 hw)) Via.refl e8 F6 F4 (Or.inr ⟨(ow27 hw), rfl, hnm⟩) (ow2 hw) (ty := .byte) (by decide) (by decide) (by decide) (g := (mkF m 48 #[.val (.ref s_), .val (.ref a), .val (.int (0 : Int32)), .val (.int (1 : Int32)), .val .null, .val (.ref b3)] [(.int (0 : Int32)), (.ref s_)])) rfl rfl (hb hby d_jdk_42_method_149_48)
  have F10 := F4.wr W9
  have F11 := F5.other W9 (Or.inr (slot_ne (Or.inr (ow29 hw)) (Or.inr (ow27 hw)) (by decide) (t := (.array .byte)) (t' := .byte) (by decide) (by decide)))
  have F12 := F6.same W9
  have F13 := F7.other W9 (Ne.symm nsa)
  have F14 := Vq3.other W9 (Ne.symm nq3_s_)
  have K9 := K3.wr W9 (Or.inl (List.mem_of_getElem? (i := 0) rfl))
  have N9 := Fr.snoc X9 N8 g_s
  have Zs9 : n0 ≤ h9.size := by rw [W9.size]; exact Zs3
  refine OGo.st st9 ?_
  show OGo p.tables e below Φ (T9.setTop (mkF m 51 #[.val (.ref s_), .val (.ref a), .val (.int (0 : Int32)), .val (.int (1 : Int32)), .val .null, .val (.ref b3)] []))
  refine OGo.st (fun _ kz => XS.aloadN X9.here hx rfl (hb hby d_jdk_42_method_149_51) rfl rfl kz) ?_
  show OGo p.tables e below Φ (T9.setTop (mkF m 52 #[.val (.ref s_), .val (.ref a), .val (.int (0 : Int32)), .val (.int (1 : Int32)), .val .null, .val (.ref b3)] [(.ref s_)]))
  refine OGo.st (fun _ kz => XS.aload X9.here hx rfl (hb hby d_jdk_42_method_149_52) rfl rfl kz) ?_
  show OGo p.tables e below Φ (T9.setTop (mkF m 54 #[.val (.ref s_), .val (.ref a), .val (.int (0 : Int32)), .val (.int (1 : Int32)), .val .null, .val (.ref b3)] [(.ref b3), (.ref s_)]))
  obtain ⟨T15, h15, X15, e15, W15, st15⟩ := putF X9 hx hZ hown (host := "") (Or.inl (ow28 hw)) Via.refl e9 F11 F10 (Or.inr ⟨(ow29 hw), rfl, hnm⟩) (ow2 hw) (ty := (.array .byte)) (by decide) rfl rfl (g := (mkF m 54 #[.val (.ref s_), .val (.ref a), .val (.int (0 : Int32)), .val (.int (1 : Int32)), .val .null, .val (.ref b3)] [(.ref b3), (.ref s_)])) rfl rfl (hb hby d_jdk_42_method_149_54)
  have F16 := F10.wr W15
  have F17 := F11.same W15
  have F18 := F12.other W15 (Or.inr (slot_ne (Or.inr (ow27 hw)) (Or.inr (ow29 hw)) (by decide) (t := .byte) (t' := (.array .byte)) (by decide) (by decide)))
  have F19 := F13.other W15 (Ne.symm nsa)
  have F20 := F14.other W15 (Ne.symm nq3_s_)
  have K15 := K9.wr W15 (Or.inl (List.mem_of_getElem? (i := 0) rfl))
  have N15 := Fr.snoc X15 N9 g_s
  have Zs15 : n0 ≤ h15.size := by rw [W15.size]; exact Zs9
  refine OGo.st st15 ?_
  show OGo p.tables e below Φ (T15.setTop (mkF m 57 #[.val (.ref s_), .val (.ref a), .val (.int (0 : Int32)), .val (.int (1 : Int32)), .val .null, .val (.ref b3)] []))
  refine OGo.fin X15 hlk (v := none) (fun _ => rfl) (by decide) (by decide) (fun fs hr => X15.returnOut hx hret (hb hby d_jdk_42_method_149_57) hr) fun U eU hF => hΦ _ _ _ ?_ hF
  rw [eU, e15]
  show Q_rsi4 Z s_ a ca qc c0_ h0 n0 _ _ _
  exact ⟨rfl, N15, K15, F16, _, _, F17, F18, F20, sq3⟩

theorem d_jdk_42_method_3_0 : decode jdk_42_method_3_code 0 = .ok (.aload_n 0, 1) := by decide +kernel
theorem d_jdk_42_method_3_1 : decode jdk_42_method_3_code 1 = .ok (.aload_n 1, 1) := by decide +kernel
theorem d_jdk_42_method_3_2 : decode jdk_42_method_3_code 2 = .ok (.iconst 0, 1) := by decide +kernel
theorem d_jdk_42_method_3_3 : decode jdk_42_method_3_code 3 = .ok (.aload_n 1, 1) := by decide +kernel
theorem d_jdk_42_method_3_4 : decode jdk_42_method_3_code 4 = .ok (.arraylength, 1) := by decide +kernel
theorem d_jdk_42_method_3_5 : decode jdk_42_method_3_code 5 = .ok (.aconst_null, 1) := by decide +kernel
theorem d_jdk_42_method_3_6 : decode jdk_42_method_3_code 6 = .ok (.invokespecial 27, 3) := by decide +kernel
theorem pd3 : parseMethodDescriptor "([CIILjava/lang/Void;)V" = some ⟨[(.array .char), .int, .int, (.object "java/lang/Void")], none⟩ := by decide +kernel
theorem d_jdk_42_method_3_9 : decode jdk_42_method_3_code 9 = .ok (.return_, 1) := by decide +kernel
theorem ef_rsi1 (m : MethodId) (x0 : Addr) (x1 : Addr) : entryFrame m #[(.ref x0), (.ref x1)] 2 = mkF m 0 #[.val (.ref x0), .val (.ref x1)] [] := by first | (simp [entryFrame, mkF, argsToLocals, Value.category]; done) | rfl
def Q_rsi1 (Z : State) (s_ : Addr) (a : Addr) (ca : ClassId) (qc : Int32) (c0_ : Int32) (h0 : Heap) (n0 : Nat) (v : Option Value) (h : Heap) (L : List Loc) : Prop := v = none ∧ Fr n0 L ∧ Keep h0 h [s_] ∧ Exa Z h s_ "java/lang/String" ∧ ∃ b cb, Fld Z h s_ "java/lang/String" "value" "[B" (.ref b) ∧ Fld Z h s_ "java/lang/String" "coder" "B" (.int (0 : Int32)) ∧ Arv Z h b cb .byte (1 : Int32) [(.int (nar .byte (c0_.toInt8.toInt32)))] (.int (0 : Int32)) ∧ h0.size ≤ b
set_option maxRecDepth 65536 in
set_option maxHeartbeats 40000000 in
theorem rsi1 (l : Launch) (Z : State) (a0 : Array Value) (hw : ∀ d ∈ tables_1, d.before a0 Z = true) (ws : List Jvm.Cond) (s_ : Addr) (a : Addr) (ca : ClassId) (qc : Int32) (c0_ : Int32) (h0 : Heap) (n0 : Nat) (Z0 : n0 ≤ h0.size) (E_s : Exa Z h0 s_ "java/lang/String") (g_s : n0 ≤ s_) (F_v : Fld Z h0 s_ "java/lang/String" "value" "[B" .null) (F_c : Fld Z h0 s_ "java/lang/String" "coder" "B" (.int (0 : Int32))) (V_a : Arv Z h0 a ca .char (1 : Int32) [(.int c0_)] (.int (0 : Int32))) (nsa : s_ ≠ a) (S_q : Sta Z h0 "java/lang/String" "COMPACT_STRINGS" "Z" (.int qc)) (hq : ¬ qc = 0) (hl0 : ¬ (255 : Int32) < c0_) :
    OCon l Z (⟨"java/lang/String", "<init>", "([C)V"⟩ : MethodName) jdk_42_method_3_code 2 none ws ({ frames := 3, cells := 1, slots := 1, locals := 52 } : Room) #[(.ref s_), (.ref a)] h0 (Q_rsi1 Z s_ a ca qc c0_ h0 n0) := by
  refine OCon.of (plainFor_of_name pn1) ?_
  intro p e s m below meth c s₁ Φ X0 hx hby hml hown hnm hret hlk hZ e0 hΦ
  have N0 := Fr.nil n0
  refine OGo.st (fun _ kz => castTop (ef_rsi1 m s_ a) kz) ?_
  have K0 := Keep.refl h0 [s_]
  show OGo p.tables e below Φ (s₁.setTop (mkF m 0 #[.val (.ref s_), .val (.ref a)] []))
  refine OGo.st (fun _ kz => XS.aloadN X0.here hx rfl (hb hby d_jdk_42_method_3_0) rfl rfl kz) ?_
  show OGo p.tables e below Φ (s₁.setTop (mkF m 1 #[.val (.ref s_), .val (.ref a)] [(.ref s_)]))
  refine OGo.st (fun _ kz => XS.aloadN X0.here hx rfl (hb hby d_jdk_42_method_3_1) rfl rfl kz) ?_
  show OGo p.tables e below Φ (s₁.setTop (mkF m 2 #[.val (.ref s_), .val (.ref a)] [(.ref a), (.ref s_)]))
  refine OGo.st (fun _ kz => XS.iconst X0.here hx rfl (hb hby d_jdk_42_method_3_2) kz) ?_
  show OGo p.tables e below Φ (s₁.setTop (mkF m 3 #[.val (.ref s_), .val (.ref a)] [(.int (0 : Int32)), (.ref a), (.ref s_)]))
  refine OGo.st (fun _ kz => XS.aloadN X0.here hx rfl (hb hby d_jdk_42_method_3_3) rfl rfl kz) ?_
  show OGo p.tables e below Φ (s₁.setTop (mkF m 4 #[.val (.ref s_), .val (.ref a)] [(.ref a), (.int (0 : Int32)), (.ref a), (.ref s_)]))
  obtain ⟨cl1, Aq1, -, S1, M1, -, -⟩ := id V_a
  refine OGo.st (fun _ kz => X0.arraylength hx (by rw [e0]; exact Aq1.1) (State.isArrayOf_alike hZ.alike Aq1.2.1) (g := (mkF m 4 #[.val (.ref s_), .val (.ref a)] [(.ref a), (.int (0 : Int32)), (.ref a), (.ref s_)])) rfl rfl (hb hby d_jdk_42_method_3_4) _ kz) ?_
  rw [len_of S1 M1]
  show OGo p.tables e below Φ (s₁.setTop (mkF m 5 #[.val (.ref s_), .val (.ref a)] [(.int (1 : Int32)), (.int (0 : Int32)), (.ref a), (.ref s_)]))
  refine OGo.st (fun _ kz => XS.aconstNull X0.here hx rfl (hb hby d_jdk_42_method_3_5) kz) ?_
  show OGo p.tables e below Φ (s₁.setTop (mkF m 6 #[.val (.ref s_), .val (.ref a)] [.null, (.int (1 : Int32)), (.int (0 : Int32)), (.ref a), (.ref s_)]))
  obtain ⟨_, T2, L2, X2, hQ2, st2⟩ := own_callSp X0 hx hZ rfl hown (ow7 hw) (ow8 hw) (ow3 hw) (ow10 hw) (by decide) (rsi4 l Z a0 hw [] s_ a ca qc c0_ h0 n0 Z0 E_s g_s F_v F_c V_a nsa S_q hq hl0) e0 (W := 0) (by decide) (by decide) (by decide) (by decide) (pc := 6) (ls := #[.val (.ref s_), .val (.ref a)]) (stk := [.null, (.int (1 : Int32)), (.int (0 : Int32)), (.ref a), (.ref s_)]) (by rw [hml]; rfl) (a := s_) (argsL := [(.ref a), (.int (0 : Int32)), (.int (1 : Int32)), .null]) (rest := []) (lenOf pd3 rfl) rfl rfl (Nat.le_of_eq rfl) (hb hby d_jdk_42_method_3_6)
  obtain ⟨rfl, Nq2, Kq2, Eq2, b2, cb2, Fv2, Fc2, Vq2, hz2⟩ := hQ2
  have nq2_a : a ≠ b2 := Nat.ne_of_lt (Nat.lt_of_lt_of_le V_a.lt hz2)
  have nq2_s_ : s_ ≠ b2 := Nat.ne_of_lt (Nat.lt_of_lt_of_le E_s.lt hz2)
  have gq2 : n0 ≤ b2 := Nat.le_trans Z0 hz2
  have sq2 : h0.size ≤ b2 := Nat.le_trans K0.1 hz2
  have N2 := Fr.app N0 Nq2
  have Zs2 : n0 ≤ T2.heap.size := Nat.le_trans Z0 Kq2.1
  have F3 := V_a.keep Kq2 (ninS (Ne.symm nsa) nin0)
  have K2 := K0.trans Kq2 (allS (Or.inl (List.mem_of_getElem? (i := 0) rfl)) all0)
  refine OGo.st st2 ?_
  show OGo p.tables e below Φ (T2.setTop (mkF m 9 #[.val (.ref s_), .val (.ref a)] []))
  refine OGo.fin X2 hlk (v := none) (fun _ => rfl) (by decide) (by decide) (fun fs hr => X2.returnOut hx hret (hb hby d_jdk_42_method_3_9) hr) fun U eU hF => hΦ _ _ _ ?_ hF
  rw [eU]
  show Q_rsi1 Z s_ a ca qc c0_ h0 n0 _ _ _
  exact ⟨rfl, N2, K2, Eq2, _, _, Fv2, Fc2, Vq2, sq2⟩

theorem pn2 : plainName "java/lang/Number" = true := by first | (simp [plainName, overriddenIn]; done) | decide +kernel
theorem d_jdk_18_method_1_0 : decode jdk_18_method_1_code 0 = .ok (.aload_n 0, 1) := by decide +kernel
theorem d_jdk_18_method_1_1 : decode jdk_18_method_1_code 1 = .ok (.invokespecial 1, 3) := by decide +kernel
theorem d_jdk_18_method_1_4 : decode jdk_18_method_1_code 4 = .ok (.return_, 1) := by decide +kernel
theorem ef_rmbn (m : MethodId) (x0 : Addr) : entryFrame m #[(.ref x0)] 1 = mkF m 0 #[.val (.ref x0)] [] := by first | (simp [entryFrame, mkF, argsToLocals, Value.category]; done) | rfl
def Q_rmbn (Z : State) (a : Addr) (h0 : Heap) (n0 : Nat) (v : Option Value) (h : Heap) (L : List Loc) : Prop := v = none ∧ Fr n0 L ∧ h = h0
set_option maxRecDepth 65536 in
set_option maxHeartbeats 40000000 in
theorem rmbn (l : Launch) (Z : State) (a0 : Array Value) (hw : ∀ d ∈ tables_1, d.before a0 Z = true) (ws : List Jvm.Cond) (a : Addr) (h0 : Heap) (n0 : Nat) (Z0 : n0 ≤ h0.size)  :
    OCon l Z (⟨"java/lang/Number", "<init>", "()V"⟩ : MethodName) jdk_18_method_1_code 1 none ws ({ frames := 1, cells := 0, slots := 0, locals := 12 } : Room) #[(.ref a)] h0 (Q_rmbn Z a h0 n0) := by
  refine OCon.of (plainFor_of_name pn2) ?_
  intro p e s m below meth c s₁ Φ X0 hx hby hml hown hnm hret hlk hZ e0 hΦ
  have N0 := Fr.nil n0
  refine OGo.st (fun _ kz => castTop (ef_rmbn m a) kz) ?_
  show OGo p.tables e below Φ (s₁.setTop (mkF m 0 #[.val (.ref a)] []))
  refine OGo.st (fun _ kz => XS.aloadN X0.here hx rfl (hb hby d_jdk_18_method_1_0) rfl rfl kz) ?_
  show OGo p.tables e below Φ (s₁.setTop (mkF m 1 #[.val (.ref a)] [(.ref a)]))
  obtain ⟨T1, X1, e1, st1⟩ := initO X0 hx hZ hown (ow53 hw) (ow12 hw) (ow13 hw) e0 (g := (mkF m 1 #[.val (.ref a)] [(.ref a)])) rfl (by rw [hml]; rfl) rfl (hb hby d_jdk_18_method_1_1) (by decide) (W := 0) (Nat.le_of_eq rfl) (by decide)
  refine OGo.st st1 ?_
  show OGo p.tables e below Φ (T1.setTop (mkF m 4 #[.val (.ref a)] []))
  refine OGo.fin X1 hlk (v := none) (fun _ => rfl) (by decide) (by decide) (fun fs hr => X1.returnOut hx hret (hb hby d_jdk_18_method_1_4) hr) fun U eU hF => hΦ _ _ _ ?_ hF
  rw [eU, e1]
  show Q_rmbn Z a h0 n0 _ _ _
  exact ⟨rfl, N0, rfl⟩

theorem pn3 : plainName "java/lang/Integer" = true := by first | (simp [plainName, overriddenIn]; done) | decide +kernel
theorem d_jdk_33_method_23_0 : decode jdk_33_method_23_code 0 = .ok (.aload_n 0, 1) := by decide +kernel
theorem d_jdk_33_method_23_1 : decode jdk_33_method_23_code 1 = .ok (.invokespecial 202, 3) := by decide +kernel
theorem pd4 : parseMethodDescriptor "()V" = some ⟨[], none⟩ := by decide +kernel
theorem d_jdk_33_method_23_4 : decode jdk_33_method_23_code 4 = .ok (.aload_n 0, 1) := by decide +kernel
theorem d_jdk_33_method_23_5 : decode jdk_33_method_23_code 5 = .ok (.iload_n 1, 1) := by decide +kernel
theorem d_jdk_33_method_23_6 : decode jdk_33_method_23_code 6 = .ok (.putfield 205, 3) := by decide +kernel
theorem d_jdk_33_method_23_9 : decode jdk_33_method_23_code 9 = .ok (.return_, 1) := by decide +kernel
theorem ef_rmbi (m : MethodId) (x0 : Addr) (x1 : Int32) : entryFrame m #[(.ref x0), (.int x1)] 2 = mkF m 0 #[.val (.ref x0), .val (.int x1)] [] := by first | (simp [entryFrame, mkF, argsToLocals, Value.category]; done) | rfl
def Q_rmbi (Z : State) (a : Addr) (x1 : Int32) (u0 : Value) (h0 : Heap) (n0 : Nat) (v : Option Value) (h : Heap) (L : List Loc) : Prop := v = none ∧ Fr n0 L ∧ Keep h0 h [a] ∧ Exa Z h a "java/lang/Integer" ∧ Fld Z h a "java/lang/Integer" "value" "I" (.int x1)
set_option maxRecDepth 65536 in
set_option maxHeartbeats 40000000 in
theorem rmbi (l : Launch) (Z : State) (a0 : Array Value) (hw : ∀ d ∈ tables_1, d.before a0 Z = true) (ws : List Jvm.Cond) (a : Addr) (x1 : Int32) (u0 : Value) (h0 : Heap) (n0 : Nat) (Z0 : n0 ≤ h0.size) (E_a : Exa Z h0 a "java/lang/Integer") (g_a : n0 ≤ a) (F_0 : Fld Z h0 a "java/lang/Integer" "value" "I" u0) :
    OCon l Z (⟨"java/lang/Integer", "<init>", "(I)V"⟩ : MethodName) jdk_33_method_23_code 2 none ws ({ frames := 2, cells := 0, slots := 0, locals := 24 } : Room) #[(.ref a), (.int x1)] h0 (Q_rmbi Z a x1 u0 h0 n0) := by
  refine OCon.of (plainFor_of_name pn3) ?_
  intro p e s m below meth c s₁ Φ X0 hx hby hml hown hnm hret hlk hZ e0 hΦ
  have N0 := Fr.nil n0
  refine OGo.st (fun _ kz => castTop (ef_rmbi m a x1) kz) ?_
  have K0 := Keep.refl h0 [a]
  show OGo p.tables e below Φ (s₁.setTop (mkF m 0 #[.val (.ref a), .val (.int x1)] []))
  refine OGo.st (fun _ kz => XS.aloadN X0.here hx rfl (hb hby d_jdk_33_method_23_0) rfl rfl kz) ?_
  show OGo p.tables e below Φ (s₁.setTop (mkF m 1 #[.val (.ref a), .val (.int x1)] [(.ref a)]))
  obtain ⟨_, T1, L1, X1, hQ1, st1⟩ := own_callSp X0 hx hZ rfl hown (ow47 hw) (ow48 hw) (ow51 hw) (ow52 hw) (by decide) (rmbn l Z a0 hw [] a h0 n0 Z0 ) e0 (W := 0) (by decide) (by decide) (by decide) (by decide) (pc := 1) (ls := #[.val (.ref a), .val (.int x1)]) (stk := [(.ref a)]) (by rw [hml]; rfl) (a := a) (argsL := []) (rest := []) (lenOf pd4 rfl) rfl rfl (Nat.le_of_eq rfl) (hb hby d_jdk_33_method_23_1)
  obtain ⟨rfl, Nq1, e1⟩ := hQ1
  have N1 := Fr.app N0 Nq1
  refine OGo.st st1 ?_
  show OGo p.tables e below Φ (T1.setTop (mkF m 4 #[.val (.ref a), .val (.int x1)] []))
  refine OGo.st (fun _ kz => XS.aloadN X1.here hx rfl (hb hby d_jdk_33_method_23_4) rfl rfl kz) ?_
  show OGo p.tables e below Φ (T1.setTop (mkF m 5 #[.val (.ref a), .val (.int x1)] [(.ref a)]))
  refine OGo.st (fun _ kz => XS.iloadN X1.here hx rfl (hb hby d_jdk_33_method_23_5) rfl kz) ?_
  show OGo p.tables e below Φ (T1.setTop (mkF m 6 #[.val (.ref a), .val (.int x1)] [(.int x1), (.ref a)]))
  obtain ⟨T2, h2, X2, e2, W2, st2⟩ := putF X1 hx hZ hown (host := "") (Or.inl (ow54 hw)) Via.refl e1 F_0 E_a (Or.inr ⟨(ow55 hw), rfl, hnm⟩) (ow42 hw) (ty := .int) (by decide) rfl rfl (g := (mkF m 6 #[.val (.ref a), .val (.int x1)] [(.int x1), (.ref a)])) rfl rfl (hb hby d_jdk_33_method_23_6)
  have F3 := E_a.wr W2
  have F4 := F_0.same W2
  have K2 := K0.wr W2 (Or.inl (List.mem_of_getElem? (i := 0) rfl))
  have N2 := Fr.snoc X2 N1 g_a
  have Zs2 : n0 ≤ h2.size := by rw [W2.size]; exact Z0
  refine OGo.st st2 ?_
  show OGo p.tables e below Φ (T2.setTop (mkF m 9 #[.val (.ref a), .val (.int x1)] []))
  refine OGo.fin X2 hlk (v := none) (fun _ => rfl) (by decide) (by decide) (fun fs hr => X2.returnOut hx hret (hb hby d_jdk_33_method_23_9) hr) fun U eU hF => hΦ _ _ _ ?_ hF
  rw [eU, e2]
  show Q_rmbi Z a x1 u0 h0 n0 _ _ _
  exact ⟨rfl, N2, K2, F3, F4⟩

theorem d_jdk_33_method_22_0 : decode jdk_33_method_22_code 0 = .ok (.iload_n 0, 1) := by decide +kernel
theorem d_jdk_33_method_22_1 : decode jdk_33_method_22_code 1 = .ok (.bipush (-128), 2) := by decide +kernel
theorem d_jdk_33_method_22_3 : decode jdk_33_method_22_code 3 = .ok (.if_icmp .lt 20, 3) := by decide +kernel
theorem d_jdk_33_method_22_23 : decode jdk_33_method_22_code 23 = .ok (.new 1, 3) := by decide +kernel
theorem d_jdk_33_method_22_26 : decode jdk_33_method_22_code 26 = .ok (.dup, 1) := by decide +kernel
theorem d_jdk_33_method_22_27 : decode jdk_33_method_22_code 27 = .ok (.iload_n 0, 1) := by decide +kernel
theorem d_jdk_33_method_22_28 : decode jdk_33_method_22_code 28 = .ok (.invokespecial 199, 3) := by decide +kernel
theorem pd5 : parseMethodDescriptor "(I)V" = some ⟨[.int], none⟩ := by decide +kernel
theorem d_jdk_33_method_22_31 : decode jdk_33_method_22_code 31 = .ok (.areturn, 1) := by decide +kernel
theorem d_jdk_33_method_22_6 : decode jdk_33_method_22_code 6 = .ok (.iload_n 0, 1) := by decide +kernel
theorem d_jdk_33_method_22_7 : decode jdk_33_method_22_code 7 = .ok (.getstatic 191, 3) := by decide +kernel
theorem d_jdk_33_method_22_10 : decode jdk_33_method_22_code 10 = .ok (.if_icmp .gt 13, 3) := by decide +kernel
theorem d_jdk_33_method_22_13 : decode jdk_33_method_22_code 13 = .ok (.getstatic 195, 3) := by decide +kernel
theorem d_jdk_33_method_22_16 : decode jdk_33_method_22_code 16 = .ok (.iload_n 0, 1) := by decide +kernel
theorem d_jdk_33_method_22_17 : decode jdk_33_method_22_code 17 = .ok (.sipush 128, 3) := by decide +kernel
theorem d_jdk_33_method_22_20 : decode jdk_33_method_22_code 20 = .ok (.iadd, 1) := by decide +kernel
theorem d_jdk_33_method_22_21 : decode jdk_33_method_22_code 21 = .ok (.aaload, 1) := by decide +kernel
theorem d_jdk_33_method_22_22 : decode jdk_33_method_22_code 22 = .ok (.areturn, 1) := by decide +kernel
theorem ef_rmbv (m : MethodId) (x0 : Int32) : entryFrame m #[(.int x0)] 1 = mkF m 0 #[.val (.int x0)] [] := by first | (simp [entryFrame, mkF, argsToLocals, Value.category]; done) | rfl
def Q_rmbv (Z : State) (x1 : Int32) (ac : Addr) (cc : Cell) (bv : Int32 → Value) (h0 : Heap) (n0 : Nat) (v : Option Value) (h : Heap) (L : List Loc) : Prop := ∃ b, v = some (.ref b) ∧ Fr n0 L ∧ Keep h0 h [] ∧ Exa Z h b "java/lang/Integer"
set_option maxRecDepth 65536 in
set_option maxHeartbeats 40000000 in
theorem rmbv (l : Launch) (Z : State) (a0 : Array Value) (hw : ∀ d ∈ tables_1, d.before a0 Z = true) (ws : List Jvm.Cond) (x1 : Int32) (ac : Addr) (cc : Cell) (bv : Int32 → Value) (h0 : Heap) (n0 : Nat) (Z0 : n0 ≤ h0.size) (S_h : Sta Z h0 "java/lang/Integer$IntegerCache" "high" "I" (.int (127 : Int32))) (S_c : Sta Z h0 "java/lang/Integer$IntegerCache" "cache" "[Ljava/lang/Integer;" (.ref ac)) (O_x : Ext Z.heap h0) (B_x : Bxs Z ac cc "java/lang/Integer" "I" (256 : Int32) bv) :
    OCon l Z (⟨"java/lang/Integer", "valueOf", "(I)Ljava/lang/Integer;"⟩ : MethodName) jdk_33_method_22_code 1 (some (.object "java/lang/Integer")) ws ({ frames := 3, cells := 1, slots := 1, locals := 38 } : Room) #[(.int x1)] h0 (Q_rmbv Z x1 ac cc bv h0 n0) := by
  refine OCon.of (plainFor_of_name pn3) ?_
  intro p e s m below meth c s₁ Φ X0 hx hby hml hown hnm hret hlk hZ e0 hΦ
  have N0 := Fr.nil n0
  refine OGo.st (fun _ kz => castTop (ef_rmbv m x1) kz) ?_
  have K0 := Keep.refl h0 []
  show OGo p.tables e below Φ (s₁.setTop (mkF m 0 #[.val (.int x1)] []))
  refine OGo.st (fun _ kz => XS.iloadN X0.here hx rfl (hb hby d_jdk_33_method_22_0) rfl kz) ?_
  show OGo p.tables e below Φ (s₁.setTop (mkF m 1 #[.val (.int x1)] [(.int x1)]))
  refine OGo.st (fun _ kz => XS.bipush X0.here hx rfl (hb hby d_jdk_33_method_22_1) kz) ?_
  show OGo p.tables e below Φ (s₁.setTop (mkF m 3 #[.val (.int x1)] [(.int (-128 : Int32)), (.int x1)]))
  by_cases hc1 : x1 < (-128 : Int32)
  · refine OGo.st (fun _ kz => XS.icmpYes X0.here hx rfl (pc0 := 3) (pc' := 23) rfl (hb hby d_jdk_33_method_22_3) rfl (XT.ii_lt_t hc1) (by decide) (by decide) kz) ?_
    show OGo p.tables e below Φ (s₁.setTop (mkF m 23 #[.val (.int x1)] []))
    obtain ⟨T2, h2, X2, e2, E2, A2, D2, U2, st2⟩ := newO X0 hx hZ hown (ow41 hw) (ow42 hw) (ow39 hw) e0 (g := (mkF m 23 #[.val (.int x1)] [])) rfl (hb hby d_jdk_33_method_22_23) (by decide) (by decide)
    obtain ⟨b2, g2⟩ : ∃ z, z = h0.size := ⟨_, rfl⟩
    rw [← g2] at A2 D2 st2 U2
    have F3 := S_h.ext E2
    have F4 := S_c.ext E2
    have gb2 : n0 ≤ b2 := Nat.le_trans Z0 (Nat.le_of_eq g2.symm)
    have K2 := K0.ext E2
    have sz2 : h0.size ≤ b2 := Nat.le_trans K0.1 (Nat.le_of_eq g2.symm)
    have Zs2 : n0 ≤ h2.size := Nat.le_trans Z0 E2.1
    have F2_55 : Fld Z h2 b2 "java/lang/Integer" "value" "I" (.int (0 : Int32)) := D2 (Or.inr (ow55 hw)) (ty := .int) (by decide)
    refine OGo.st (st2) ?_
    show OGo p.tables e below Φ (T2.setTop (mkF m 26 #[.val (.int x1)] [(.ref b2)]))
    refine OGo.st (fun _ kz => XS.dup X2.here hx rfl (hb hby d_jdk_33_method_22_26) rfl rfl kz) ?_
    show OGo p.tables e below Φ (T2.setTop (mkF m 27 #[.val (.int x1)] [(.ref b2), (.ref b2)]))
    refine OGo.st (fun _ kz => XS.iloadN X2.here hx rfl (hb hby d_jdk_33_method_22_27) rfl kz) ?_
    show OGo p.tables e below Φ (T2.setTop (mkF m 28 #[.val (.int x1)] [(.int x1), (.ref b2), (.ref b2)]))
    obtain ⟨_, T5, L5, X5, hQ5, st5⟩ := own_callSp X2 hx hZ rfl hown (ow43 hw) (ow44 hw) (ow39 hw) (ow46 hw) (by decide) (rmbi l Z a0 hw [] b2 x1 (.int (0 : Int32)) h2 n0 Zs2 A2 gb2 F2_55) e2 (W := 1) (by decide) (by decide) (by decide) (by decide) (pc := 28) (ls := #[.val (.int x1)]) (stk := [(.int x1), (.ref b2), (.ref b2)]) (by rw [hml]; rfl) (a := b2) (argsL := [(.int x1)]) (rest := [(.ref b2)]) (lenOf pd5 rfl) rfl rfl (Nat.le_of_eq rfl) (hb hby d_jdk_33_method_22_28)
    obtain ⟨rfl, Nq5, Kq5, Eq5, Fq5_0⟩ := hQ5
    have N5 := Fr.app N0 Nq5
    have Zs5 : n0 ≤ T5.heap.size := Nat.le_trans Zs2 Kq5.1
    have K5 := K2.trans Kq5 (allS (Or.inr sz2) all0)
    refine OGo.st st5 ?_
    show OGo p.tables e below Φ (T5.setTop (mkF m 31 #[.val (.int x1)] [(.ref b2)]))
    refine OGo.fin X5 hlk (v := (some (.ref b2))) (fun h => by rw [hret] at h; cases h) (by decide) (by decide) (fun fs hr => X5.areturnOut hx rfl hret rfl (hb hby d_jdk_33_method_22_31) hr) fun U eU hF => hΦ _ _ _ ?_ hF
    rw [eU]
    show Q_rmbv Z x1 ac cc bv h0 n0 _ _ _
    exact ⟨_, rfl, N5, K5, Eq5⟩
  · refine OGo.st (fun _ kz => XS.icmpNo X0.here hx rfl (hb hby d_jdk_33_method_22_3) rfl (XT.ii_lt_f hc1) kz) ?_
    show OGo p.tables e below Φ (s₁.setTop (mkF m 6 #[.val (.int x1)] []))
    refine OGo.st (fun _ kz => XS.iloadN X0.here hx rfl (hb hby d_jdk_33_method_22_6) rfl kz) ?_
    show OGo p.tables e below Φ (s₁.setTop (mkF m 7 #[.val (.int x1)] [(.int x1)]))
    obtain ⟨T6, X6, e6, st6⟩ := getS2 X0 hx hZ hown (host := "") (Or.inl (ow56 hw)) Via.refl e0 S_h (g := (mkF m 7 #[.val (.int x1)] [(.int x1)])) rfl (hb hby d_jdk_33_method_22_7)
    refine OGo.st st6 ?_
    show OGo p.tables e below Φ (T6.setTop (mkF m 10 #[.val (.int x1)] [(.int (127 : Int32)), (.int x1)]))
    by_cases hc7 : (127 : Int32) < x1
    · refine OGo.st (fun _ kz => XS.icmpYes X6.here hx rfl (pc0 := 10) (pc' := 23) rfl (hb hby d_jdk_33_method_22_10) rfl (XT.ii_gt_t hc7) (by decide) (by decide) kz) ?_
      show OGo p.tables e below Φ (T6.setTop (mkF m 23 #[.val (.int x1)] []))
      obtain ⟨T8, h8, X8, e8, E8, A8, D8, U8, st8⟩ := newO X6 hx hZ hown (ow41 hw) (ow42 hw) (ow39 hw) e6 (g := (mkF m 23 #[.val (.int x1)] [])) rfl (hb hby d_jdk_33_method_22_23) (by decide) (by decide)
      obtain ⟨b8, g8⟩ : ∃ z, z = h0.size := ⟨_, rfl⟩
      rw [← g8] at A8 D8 st8 U8
      have F9 := S_h.ext E8
      have F10 := S_c.ext E8
      have gb8 : n0 ≤ b8 := Nat.le_trans Z0 (Nat.le_of_eq g8.symm)
      have K8 := K0.ext E8
      have sz8 : h0.size ≤ b8 := Nat.le_trans K0.1 (Nat.le_of_eq g8.symm)
      have Zs8 : n0 ≤ h8.size := Nat.le_trans Z0 E8.1
      have F8_55 : Fld Z h8 b8 "java/lang/Integer" "value" "I" (.int (0 : Int32)) := D8 (Or.inr (ow55 hw)) (ty := .int) (by decide)
      refine OGo.st (st8) ?_
      show OGo p.tables e below Φ (T8.setTop (mkF m 26 #[.val (.int x1)] [(.ref b8)]))
      refine OGo.st (fun _ kz => XS.dup X8.here hx rfl (hb hby d_jdk_33_method_22_26) rfl rfl kz) ?_
      show OGo p.tables e below Φ (T8.setTop (mkF m 27 #[.val (.int x1)] [(.ref b8), (.ref b8)]))
      refine OGo.st (fun _ kz => XS.iloadN X8.here hx rfl (hb hby d_jdk_33_method_22_27) rfl kz) ?_
      show OGo p.tables e below Φ (T8.setTop (mkF m 28 #[.val (.int x1)] [(.int x1), (.ref b8), (.ref b8)]))
      obtain ⟨_, T11, L11, X11, hQ11, st11⟩ := own_callSp X8 hx hZ rfl hown (ow43 hw) (ow44 hw) (ow39 hw) (ow46 hw) (by decide) (rmbi l Z a0 hw [] b8 x1 (.int (0 : Int32)) h8 n0 Zs8 A8 gb8 F8_55) e8 (W := 1) (by decide) (by decide) (by decide) (by decide) (pc := 28) (ls := #[.val (.int x1)]) (stk := [(.int x1), (.ref b8), (.ref b8)]) (by rw [hml]; rfl) (a := b8) (argsL := [(.int x1)]) (rest := [(.ref b8)]) (lenOf pd5 rfl) rfl rfl (Nat.le_of_eq rfl) (hb hby d_jdk_33_method_22_28)
      obtain ⟨rfl, Nq11, Kq11, Eq11, Fq11_0⟩ := hQ11
      have N11 := Fr.app N0 Nq11
      have Zs11 : n0 ≤ T11.heap.size := Nat.le_trans Zs8 Kq11.1
      have K11 := K8.trans Kq11 (allS (Or.inr sz8) all0)
      refine OGo.st st11 ?_
      show OGo p.tables e below Φ (T11.setTop (mkF m 31 #[.val (.int x1)] [(.ref b8)]))
      refine OGo.fin X11 hlk (v := (some (.ref b8))) (fun h => by rw [hret] at h; cases h) (by decide) (by decide) (fun fs hr => X11.areturnOut hx rfl hret rfl (hb hby d_jdk_33_method_22_31) hr) fun U eU hF => hΦ _ _ _ ?_ hF
      rw [eU]
      show Q_rmbv Z x1 ac cc bv h0 n0 _ _ _
      exact ⟨_, rfl, N11, K11, Eq11⟩
    · refine OGo.st (fun _ kz => XS.icmpNo X6.here hx rfl (hb hby d_jdk_33_method_22_10) rfl (XT.ii_gt_f hc7) kz) ?_
      show OGo p.tables e below Φ (T6.setTop (mkF m 13 #[.val (.int x1)] []))
      obtain ⟨T12, X12, e12, st12⟩ := getS2 X6 hx hZ hown (host := "") (Or.inl (ow58 hw)) Via.refl e6 S_c (g := (mkF m 13 #[.val (.int x1)] [])) rfl (hb hby d_jdk_33_method_22_13)
      refine OGo.st st12 ?_
      show OGo p.tables e below Φ (T12.setTop (mkF m 16 #[.val (.int x1)] [(.ref ac)]))
      refine OGo.st (fun _ kz => XS.iloadN X12.here hx rfl (hb hby d_jdk_33_method_22_16) rfl kz) ?_
      show OGo p.tables e below Φ (T12.setTop (mkF m 17 #[.val (.int x1)] [(.int x1), (.ref ac)]))
      refine OGo.st (fun _ kz => XS.sipush X12.here hx rfl (hb hby d_jdk_33_method_22_17) kz) ?_
      show OGo p.tables e below Φ (T12.setTop (mkF m 20 #[.val (.int x1)] [(.int (128 : Int32)), (.int x1), (.ref ac)]))
      refine OGo.st (fun _ kz => XS.iadd X12.here hx rfl (hb hby d_jdk_33_method_22_20) rfl kz) ?_
      show OGo p.tables e below Φ (T12.setTop (mkF m 21 #[.val (.int x1)] [(.int (x1 + (128 : Int32))), (.ref ac)]))
      have in13 := own_bxin hc1 hc7 B_x.2.1
      obtain ⟨bq, at13, Ex13, -⟩ := B_x.2.2.2 _ in13
      have Ex := Ex13.ext O_x
      refine OGo.st (fun _ kz => X12.aaload hx (by rw [e12]; exact (B_x.1.ext O_x).1) (State.isArrayOf_alike hZ.alike B_x.1.2.1) rfl B_x.1.2.2 in13 at13 (g := (mkF m 21 #[.val (.int x1)] [(.int (x1 + (128 : Int32))), (.ref ac)])) rfl rfl (hb hby d_jdk_33_method_22_21) _ kz) ?_
      show OGo p.tables e below Φ (T12.setTop (mkF m 22 #[.val (.int x1)] [(.ref bq)]))
      refine OGo.fin X12 hlk (v := (some (.ref bq))) (fun h => by rw [hret] at h; cases h) (by decide) (by decide) (fun fs hr => X12.areturnOut hx rfl hret rfl (hb hby d_jdk_33_method_22_22) hr) fun U eU hF => hΦ _ _ _ ?_ hF
      rw [eU, e12]
      show Q_rmbv Z x1 ac cc bv h0 n0 _ _ _
      exact ⟨_, rfl, N0, K0, Ex⟩

theorem pn4 : plainName "com/example/bowerbird/bowerbird/service/Evaluator" = true := by first | (simp [plainName, overriddenIn]; done) | decide +kernel
theorem d_prog_82_method_35_0 : decode prog_82_method_35_code 0 = .ok (.aload_n 0, 1) := by decide +kernel
theorem d_prog_82_method_35_1 : decode prog_82_method_35_code 1 = .ok (.ifnonnull 9, 3) := by decide +kernel
theorem d_prog_82_method_35_4 : decode prog_82_method_35_code 4 = .ok (.getstatic 413, 3) := by decide +kernel
theorem d_prog_82_method_35_7 : decode prog_82_method_35_code 7 = .ok (.goto 4, 3) := by decide +kernel
theorem d_prog_82_method_35_11 : decode prog_82_method_35_code 11 = .ok (.areturn, 1) := by decide +kernel
theorem ef_rm1n (m : MethodId)  : entryFrame m #[.null] 1 = mkF m 0 #[.val .null] [] := by first | (simp [entryFrame, mkF, argsToLocals, Value.category]; done) | rfl
def Q_rm1n (Z : State) (aN : Addr) (h0 : Heap) (n0 : Nat) (v : Option Value) (h : Heap) (L : List Loc) : Prop := v = some (.ref aN) ∧ Fr n0 L ∧ h = h0
set_option maxRecDepth 65536 in
set_option maxHeartbeats 40000000 in
theorem rm1n (l : Launch) (Z : State) (a0 : Array Value) (hw : ∀ d ∈ tables_1, d.before a0 Z = true) (ws : List Jvm.Cond) (aN : Addr) (h0 : Heap) (n0 : Nat) (Z0 : n0 ≤ h0.size) (S_N : Sta Z h0 "com/example/bowerbird/bowerbird/service/Evaluator" "NULL" "Ljava/lang/Object;" (.ref aN)) :
    OCon l Z (⟨"com/example/bowerbird/bowerbird/service/Evaluator", "orNull", "(Ljava/lang/Object;)Ljava/lang/Object;"⟩ : MethodName) prog_82_method_35_code 1 (some (.object "java/lang/Object")) ws ({ frames := 0, cells := 0, slots := 0, locals := 0 } : Room) #[.null] h0 (Q_rm1n Z aN h0 n0) := by
  refine OCon.of (plainFor_of_name pn4) ?_
  intro p e s m below meth c s₁ Φ X0 hx hby hml hown hnm hret hlk hZ e0 hΦ
  have N0 := Fr.nil n0
  refine OGo.st (fun _ kz => castTop (ef_rm1n m ) kz) ?_
  show OGo p.tables e below Φ (s₁.setTop (mkF m 0 #[.val .null] []))
  refine OGo.st (fun _ kz => XS.aloadN X0.here hx rfl (hb hby d_prog_82_method_35_0) rfl rfl kz) ?_
  show OGo p.tables e below Φ (s₁.setTop (mkF m 1 #[.val .null] [.null]))
  refine OGo.st (fun _ kz => XT.ifnonnullNo X0.here hx rfl (hb hby d_prog_82_method_35_1) rfl kz) ?_
  show OGo p.tables e below Φ (s₁.setTop (mkF m 4 #[.val .null] []))
  obtain ⟨T1, X1, e1, st1⟩ := getS2 X0 hx hZ hown (host := "") (Or.inl (ow34 hw)) Via.refl e0 S_N (g := (mkF m 4 #[.val .null] [])) rfl (hb hby d_prog_82_method_35_4)
  refine OGo.st st1 ?_
  show OGo p.tables e below Φ (T1.setTop (mkF m 7 #[.val .null] [(.ref aN)]))
  refine OGo.st (fun _ kz => XS.goto X1.here hx rfl (pc0 := 7) (pc' := 11) rfl (hb hby d_prog_82_method_35_7) (by decide) (by decide) kz) ?_
  show OGo p.tables e below Φ (T1.setTop (mkF m 11 #[.val .null] [(.ref aN)]))
  refine OGo.fin X1 hlk (v := (some (.ref aN))) (fun h => by rw [hret] at h; cases h) (by decide) (by decide) (fun fs hr => X1.areturnOut hx rfl hret rfl (hb hby d_prog_82_method_35_11) hr) fun U eU hF => hΦ _ _ _ ?_ hF
  rw [eU, e1]
  show Q_rm1n Z aN h0 n0 _ _ _
  exact ⟨rfl, N0, rfl⟩

theorem d_prog_82_method_35_10 : decode prog_82_method_35_code 10 = .ok (.aload_n 0, 1) := by decide +kernel
theorem ef_rm1o (m : MethodId) (x0 : Addr) : entryFrame m #[(.ref x0)] 1 = mkF m 0 #[.val (.ref x0)] [] := by first | (simp [entryFrame, mkF, argsToLocals, Value.category]; done) | rfl
def Q_rm1o (Z : State) (a : Addr) (h0 : Heap) (n0 : Nat) (v : Option Value) (h : Heap) (L : List Loc) : Prop := v = some (.ref a) ∧ Fr n0 L ∧ h = h0
set_option maxRecDepth 65536 in
set_option maxHeartbeats 40000000 in
theorem rm1o (l : Launch) (Z : State) (a0 : Array Value) (hw : ∀ d ∈ tables_1, d.before a0 Z = true) (ws : List Jvm.Cond) (a : Addr) (h0 : Heap) (n0 : Nat) (Z0 : n0 ≤ h0.size)  :
    OCon l Z (⟨"com/example/bowerbird/bowerbird/service/Evaluator", "orNull", "(Ljava/lang/Object;)Ljava/lang/Object;"⟩ : MethodName) prog_82_method_35_code 1 (some (.object "java/lang/Object")) ws ({ frames := 0, cells := 0, slots := 0, locals := 0 } : Room) #[(.ref a)] h0 (Q_rm1o Z a h0 n0) := by
  refine OCon.of (plainFor_of_name pn4) ?_
  intro p e s m below meth c s₁ Φ X0 hx hby hml hown hnm hret hlk hZ e0 hΦ
  have N0 := Fr.nil n0
  refine OGo.st (fun _ kz => castTop (ef_rm1o m a) kz) ?_
  show OGo p.tables e below Φ (s₁.setTop (mkF m 0 #[.val (.ref a)] []))
  refine OGo.st (fun _ kz => XS.aloadN X0.here hx rfl (hb hby d_prog_82_method_35_0) rfl rfl kz) ?_
  show OGo p.tables e below Φ (s₁.setTop (mkF m 1 #[.val (.ref a)] [(.ref a)]))
  refine OGo.st (fun _ kz => XT.ifnonnullYes X0.here hx rfl (pc0 := 1) (pc' := 10) rfl (hb hby d_prog_82_method_35_1) rfl (by decide) (by decide) kz) ?_
  show OGo p.tables e below Φ (s₁.setTop (mkF m 10 #[.val (.ref a)] []))
  refine OGo.st (fun _ kz => XS.aloadN X0.here hx rfl (hb hby d_prog_82_method_35_10) rfl rfl kz) ?_
  show OGo p.tables e below Φ (s₁.setTop (mkF m 11 #[.val (.ref a)] [(.ref a)]))
  refine OGo.fin X0 hlk (v := (some (.ref a))) (fun h => by rw [hret] at h; cases h) (by decide) (by decide) (fun fs hr => X0.areturnOut hx rfl hret rfl (hb hby d_prog_82_method_35_11) hr) fun U eU hF => hΦ _ _ _ ?_ hF
  rw [eU, e0]
  show Q_rm1o Z a h0 n0 _ _ _
  exact ⟨rfl, N0, rfl⟩

theorem pn5 : plainName "com/example/bowerbird/bowerbird/service/EvaluatorOrNullPinLaw" = true := by first | (simp [plainName, overriddenIn]; done) | decide +kernel
theorem pd6 : parseMethodDescriptor "(Ljava/lang/Object;)Ljava/lang/Object;" = some ⟨[(.object "java/lang/Object")], some (.object "java/lang/Object")⟩ := by decide +kernel
theorem pd7 : parseMethodDescriptor "([C)V" = some ⟨[(.array .char)], none⟩ := by decide +kernel
theorem pd8 : parseMethodDescriptor "(I)Ljava/lang/Integer;" = some ⟨[.int], some (.object "java/lang/Integer")⟩ := by decide +kernel
theorem ef_rm0 (m : MethodId) (x0 : Int32) (x1 : Int32) : entryFrame m #[(.int x0), (.int x1)] maxLocals = mkF m 0 #[.val (.int x0), .val (.int x1), .unset, .unset, .unset, .unset] [] := by first | (simp [entryFrame, mkF, argsToLocals, Value.category, maxLocals]; done) | rfl
def Q_rm0 (Z : State) (xx : Int32) (xf : Int32) (aN : Addr) (qc : Int32) (ac : Addr) (cc : Cell) (bv : Int32 → Value) (h0 : Heap) (n0 : Nat) (v : Option Value) (h : Heap) (L : List Loc) : Prop := v = some (.int (1 : Int32)) ∧ Fr n0 L
set_option maxRecDepth 65536 in
set_option maxHeartbeats 40000000 in
theorem rm0 (l : Launch) (Z : State) (a0 : Array Value) (hw : ∀ d ∈ tables_1, d.before a0 Z = true) (ws : List Jvm.Cond) (xx : Int32) (xf : Int32) (aN : Addr) (qc : Int32) (ac : Addr) (cc : Cell) (bv : Int32 → Value) (h0 : Heap) (n0 : Nat) (Z0 : n0 ≤ h0.size) (O_0 : Old Z n0 h0) (S_hi : Sta Z Z.heap "java/lang/Integer$IntegerCache" "high" "I" (.int (127 : Int32))) (S_ca : Sta Z Z.heap "java/lang/Integer$IntegerCache" "cache" "[Ljava/lang/Integer;" (.ref ac)) (B_x : Bxs Z ac cc "java/lang/Integer" "I" (256 : Int32) bv) (S_nu : Sta Z Z.heap "com/example/bowerbird/bowerbird/service/Evaluator" "NULL" "Ljava/lang/Object;" (.ref aN)) (S_cs : Sta Z Z.heap "java/lang/String" "COMPACT_STRINGS" "Z" (.int qc)) (hq : ¬ qc = 0) :
    OCon l Z x code maxLocals ret ws room_1 #[(.int xx), (.int xf)] h0 (Q_rm0 Z xx xf aN qc ac cc bv h0 n0) := by
  refine OCon.of (plainFor_of_name pn5) ?_
  intro p e s m below meth c s₁ Φ X0 hx hby hml hown hnm hret hlk hZ e0 hΦ
  have N0 := Fr.nil n0
  refine OGo.st (fun _ kz => castTop (ef_rm0 m xx xf) kz) ?_
  show OGo p.tables e below Φ (s₁.setTop (mkF m 0 #[.val (.int xx), .val (.int xf), .unset, .unset, .unset, .unset] []))
  refine OGo.st (fun _ kz => XS.iloadN X0.here hx rfl (hb hby at_0) rfl kz) ?_
  show OGo p.tables e below Φ (s₁.setTop (mkF m 1 #[.val (.int xx), .val (.int xf), .unset, .unset, .unset, .unset] [(.int xf)]))
  refine OGo.st (fun _ kz => XS.iconst X0.here hx rfl (hb hby at_1) kz) ?_
  show OGo p.tables e below Φ (s₁.setTop (mkF m 2 #[.val (.int xx), .val (.int xf), .unset, .unset, .unset, .unset] [(.int (3 : Int32)), (.int xf)]))
  refine OGo.st (fun _ kz => XS.iand X0.here hx rfl (hb hby at_2) rfl kz) ?_
  show OGo p.tables e below Φ (s₁.setTop (mkF m 3 #[.val (.int xx), .val (.int xf), .unset, .unset, .unset, .unset] [(.int (xf &&& (3 : Int32)))]))
  refine OGo.st (fun _ kz => XS.istoreN X0.here hx rfl (hb hby at_3) rfl (l' := #[.val (.int xx), .val (.int xf), .val (.int (xf &&& (3 : Int32))), .unset, .unset, .unset]) rfl kz) ?_
  show OGo p.tables e below Φ (s₁.setTop (mkF m 4 #[.val (.int xx), .val (.int xf), .val (.int (xf &&& (3 : Int32))), .unset, .unset, .unset] []))
  refine OGo.st (fun _ kz => XS.iloadN X0.here hx rfl (hb hby at_4) rfl kz) ?_
  show OGo p.tables e below Φ (s₁.setTop (mkF m 5 #[.val (.int xx), .val (.int xf), .val (.int (xf &&& (3 : Int32))), .unset, .unset, .unset] [(.int (xf &&& (3 : Int32)))]))
  refine OGo.st (fun _ kz => XS.iconst X0.here hx rfl (hb hby at_5) kz) ?_
  show OGo p.tables e below Φ (s₁.setTop (mkF m 6 #[.val (.int xx), .val (.int xf), .val (.int (xf &&& (3 : Int32))), .unset, .unset, .unset] [(.int (1 : Int32)), (.int (xf &&& (3 : Int32)))]))
  by_cases hc1 : (xf &&& (3 : Int32)) = (1 : Int32)
  · refine OGo.st (fun _ kz => XS.icmpNo X0.here hx rfl (hb hby at_6) rfl (XT.ii_ne_f hc1) kz) ?_
    show OGo p.tables e below Φ (s₁.setTop (mkF m 9 #[.val (.int xx), .val (.int xf), .val (.int (xf &&& (3 : Int32))), .unset, .unset, .unset] []))
    refine OGo.st (fun _ kz => XS.aconstNull X0.here hx rfl (hb hby at_9) kz) ?_
    show OGo p.tables e below Φ (s₁.setTop (mkF m 10 #[.val (.int xx), .val (.int xf), .val (.int (xf &&& (3 : Int32))), .unset, .unset, .unset] [.null]))
    refine OGo.st (fun _ kz => XS.astoreN X0.here hx rfl (hb hby at_10) rfl rfl (l' := #[.val (.int xx), .val (.int xf), .val (.int (xf &&& (3 : Int32))), .val .null, .unset, .unset]) rfl kz) ?_
    show OGo p.tables e below Φ (s₁.setTop (mkF m 11 #[.val (.int xx), .val (.int xf), .val (.int (xf &&& (3 : Int32))), .val .null, .unset, .unset] []))
    refine OGo.st (fun _ kz => XS.goto X0.here hx rfl (pc0 := 11) (pc' := 64) rfl (hb hby at_11) (by decide) (by decide) kz) ?_
    show OGo p.tables e below Φ (s₁.setTop (mkF m 64 #[.val (.int xx), .val (.int xf), .val (.int (xf &&& (3 : Int32))), .val .null, .unset, .unset] []))
    refine OGo.st (fun _ kz => XS.aloadN X0.here hx rfl (hb hby at_64) rfl rfl kz) ?_
    show OGo p.tables e below Φ (s₁.setTop (mkF m 65 #[.val (.int xx), .val (.int xf), .val (.int (xf &&& (3 : Int32))), .val .null, .unset, .unset] [.null]))
    obtain ⟨_, T2, L2, X2, hQ2, st2⟩ := own_callSt X0 hx hZ hown (ow30 hw) (ow31 hw) (ow32 hw) (ow33 hw) (by decide) (rm1n l Z a0 hw [] aN h0 n0 Z0 (S_nu.ext O_0.2)) e0 (W := 0) (by decide) (by decide) (by decide) (by decide) (pc := 65) (ls := #[.val (.int xx), .val (.int xf), .val (.int (xf &&& (3 : Int32))), .val .null, .unset, .unset]) (stk := [.null]) (by rw [hml]; rfl) (argsL := [.null]) (rest := []) (lenOf pd6 rfl) rfl rfl (Nat.le_of_eq rfl) (hb hby at_65)
    obtain ⟨rfl, Nq2, e2⟩ := hQ2
    have N2 := Fr.app N0 Nq2
    refine OGo.st st2 ?_
    show OGo p.tables e below Φ (T2.setTop (mkF m 68 #[.val (.int xx), .val (.int xf), .val (.int (xf &&& (3 : Int32))), .val .null, .unset, .unset] [(.ref aN)]))
    refine OGo.st (fun _ kz => XS.astore X2.here hx rfl (hb hby at_68) rfl rfl (l' := #[.val (.int xx), .val (.int xf), .val (.int (xf &&& (3 : Int32))), .val .null, .val (.ref aN), .unset]) rfl kz) ?_
    show OGo p.tables e below Φ (T2.setTop (mkF m 70 #[.val (.int xx), .val (.int xf), .val (.int (xf &&& (3 : Int32))), .val .null, .val (.ref aN), .unset] []))
    refine OGo.st (fun _ kz => XS.aload X2.here hx rfl (hb hby at_70) rfl rfl kz) ?_
    show OGo p.tables e below Φ (T2.setTop (mkF m 72 #[.val (.int xx), .val (.int xf), .val (.int (xf &&& (3 : Int32))), .val .null, .val (.ref aN), .unset] [(.ref aN)]))
    refine OGo.st (fun _ kz => XT.ifnonnullYes X2.here hx rfl (pc0 := 72) (pc' := 77) rfl (hb hby at_72) rfl (by decide) (by decide) kz) ?_
    show OGo p.tables e below Φ (T2.setTop (mkF m 77 #[.val (.int xx), .val (.int xf), .val (.int (xf &&& (3 : Int32))), .val .null, .val (.ref aN), .unset] []))
    refine OGo.st (fun _ kz => XS.aload X2.here hx rfl (hb hby at_77) rfl rfl kz) ?_
    show OGo p.tables e below Φ (T2.setTop (mkF m 79 #[.val (.int xx), .val (.int xf), .val (.int (xf &&& (3 : Int32))), .val .null, .val (.ref aN), .unset] [(.ref aN)]))
    obtain ⟨_, T3, L3, X3, hQ3, st3⟩ := own_callSt X2 hx hZ hown (ow30 hw) (ow31 hw) (ow32 hw) (ow33 hw) (by decide) (rm1o l Z a0 hw [] aN h0 n0 Z0 ) e2 (W := 0) (by decide) (by decide) (by decide) (by decide) (pc := 79) (ls := #[.val (.int xx), .val (.int xf), .val (.int (xf &&& (3 : Int32))), .val .null, .val (.ref aN), .unset]) (stk := [(.ref aN)]) (by rw [hml]; rfl) (argsL := [(.ref aN)]) (rest := []) (lenOf pd6 rfl) rfl rfl (Nat.le_of_eq rfl) (hb hby at_79)
    obtain ⟨rfl, Nq3, e3⟩ := hQ3
    have N3 := Fr.app N2 Nq3
    refine OGo.st st3 ?_
    show OGo p.tables e below Φ (T3.setTop (mkF m 82 #[.val (.int xx), .val (.int xf), .val (.int (xf &&& (3 : Int32))), .val .null, .val (.ref aN), .unset] [(.ref aN)]))
    refine OGo.st (fun _ kz => XS.astore X3.here hx rfl (hb hby at_82) rfl rfl (l' := #[.val (.int xx), .val (.int xf), .val (.int (xf &&& (3 : Int32))), .val .null, .val (.ref aN), .val (.ref aN)]) rfl kz) ?_
    show OGo p.tables e below Φ (T3.setTop (mkF m 84 #[.val (.int xx), .val (.int xf), .val (.int (xf &&& (3 : Int32))), .val .null, .val (.ref aN), .val (.ref aN)] []))
    refine OGo.st (fun _ kz => XS.aload X3.here hx rfl (hb hby at_84) rfl rfl kz) ?_
    show OGo p.tables e below Φ (T3.setTop (mkF m 86 #[.val (.int xx), .val (.int xf), .val (.int (xf &&& (3 : Int32))), .val .null, .val (.ref aN), .val (.ref aN)] [(.ref aN)]))
    refine OGo.st (fun _ kz => XS.aload X3.here hx rfl (hb hby at_86) rfl rfl kz) ?_
    show OGo p.tables e below Φ (T3.setTop (mkF m 88 #[.val (.int xx), .val (.int xf), .val (.int (xf &&& (3 : Int32))), .val .null, .val (.ref aN), .val (.ref aN)] [(.ref aN), (.ref aN)]))
    refine OGo.st (fun _ kz => XT.acmpYes X3.here hx rfl (pc0 := 88) (pc' := 93) rfl (hb hby at_88) rfl rfl rfl (XT.aa_eq_t rfl) (by decide) (by decide) kz) ?_
    show OGo p.tables e below Φ (T3.setTop (mkF m 93 #[.val (.int xx), .val (.int xf), .val (.int (xf &&& (3 : Int32))), .val .null, .val (.ref aN), .val (.ref aN)] []))
    refine OGo.st (fun _ kz => XS.aloadN X3.here hx rfl (hb hby at_93) rfl rfl kz) ?_
    show OGo p.tables e below Φ (T3.setTop (mkF m 94 #[.val (.int xx), .val (.int xf), .val (.int (xf &&& (3 : Int32))), .val .null, .val (.ref aN), .val (.ref aN)] [.null]))
    refine OGo.st (fun _ kz => XT.ifnonnullNo X3.here hx rfl (hb hby at_94) rfl kz) ?_
    show OGo p.tables e below Φ (T3.setTop (mkF m 97 #[.val (.int xx), .val (.int xf), .val (.int (xf &&& (3 : Int32))), .val .null, .val (.ref aN), .val (.ref aN)] []))
    refine OGo.st (fun _ kz => XS.aload X3.here hx rfl (hb hby at_97) rfl rfl kz) ?_
    show OGo p.tables e below Φ (T3.setTop (mkF m 99 #[.val (.int xx), .val (.int xf), .val (.int (xf &&& (3 : Int32))), .val .null, .val (.ref aN), .val (.ref aN)] [(.ref aN)]))
    have Sn4 := S_nu.ext O_0.2
    obtain ⟨T5, X5, e5, st5⟩ := getS2 X3 hx hZ hown (host := "") (Or.inl (ow36 hw)) Via.refl e3 Sn4 (g := (mkF m 99 #[.val (.int xx), .val (.int xf), .val (.int (xf &&& (3 : Int32))), .val .null, .val (.ref aN), .val (.ref aN)] [(.ref aN)])) rfl (hb hby at_99)
    refine OGo.st st5 ?_
    show OGo p.tables e below Φ (T5.setTop (mkF m 102 #[.val (.int xx), .val (.int xf), .val (.int (xf &&& (3 : Int32))), .val .null, .val (.ref aN), .val (.ref aN)] [(.ref aN), (.ref aN)]))
    refine OGo.st (fun _ kz => XT.acmpNo X5.here hx rfl (hb hby at_102) rfl rfl rfl (XT.aa_ne_f rfl) kz) ?_
    show OGo p.tables e below Φ (T5.setTop (mkF m 105 #[.val (.int xx), .val (.int xf), .val (.int (xf &&& (3 : Int32))), .val .null, .val (.ref aN), .val (.ref aN)] []))
    refine OGo.st (fun _ kz => XS.iconst X5.here hx rfl (hb hby at_105) kz) ?_
    show OGo p.tables e below Φ (T5.setTop (mkF m 106 #[.val (.int xx), .val (.int xf), .val (.int (xf &&& (3 : Int32))), .val .null, .val (.ref aN), .val (.ref aN)] [(.int (1 : Int32))]))
    refine OGo.st (fun _ kz => XS.goto X5.here hx rfl (pc0 := 106) (pc' := 110) rfl (hb hby at_106) (by decide) (by decide) kz) ?_
    show OGo p.tables e below Φ (T5.setTop (mkF m 110 #[.val (.int xx), .val (.int xf), .val (.int (xf &&& (3 : Int32))), .val .null, .val (.ref aN), .val (.ref aN)] [(.int (1 : Int32))]))
    refine OGo.fin X5 hlk (v := (some (.int (1 : Int32)))) (fun h => by rw [hret] at h; cases h) (by decide) (by decide) (fun fs hr => X5.ireturnOut hx hret rfl (by simp) (hb hby at_110) hr) fun U eU hF => hΦ _ _ _ ?_ hF
    rw [eU, e5]
    show Q_rm0 Z xx xf aN qc ac cc bv h0 n0 _ _ _
    exact ⟨rfl, N3⟩
  · refine OGo.st (fun _ kz => XS.icmpYes X0.here hx rfl (pc0 := 6) (pc' := 14) rfl (hb hby at_6) rfl (XT.ii_ne_t hc1) (by decide) (by decide) kz) ?_
    show OGo p.tables e below Φ (s₁.setTop (mkF m 14 #[.val (.int xx), .val (.int xf), .val (.int (xf &&& (3 : Int32))), .unset, .unset, .unset] []))
    refine OGo.st (fun _ kz => XS.iloadN X0.here hx rfl (hb hby at_14) rfl kz) ?_
    show OGo p.tables e below Φ (s₁.setTop (mkF m 15 #[.val (.int xx), .val (.int xf), .val (.int (xf &&& (3 : Int32))), .unset, .unset, .unset] [(.int (xf &&& (3 : Int32)))]))
    refine OGo.st (fun _ kz => XS.iconst X0.here hx rfl (hb hby at_15) kz) ?_
    show OGo p.tables e below Φ (s₁.setTop (mkF m 16 #[.val (.int xx), .val (.int xf), .val (.int (xf &&& (3 : Int32))), .unset, .unset, .unset] [(.int (2 : Int32)), (.int (xf &&& (3 : Int32)))]))
    by_cases hc6 : (xf &&& (3 : Int32)) = (2 : Int32)
    · refine OGo.st (fun _ kz => XS.icmpNo X0.here hx rfl (hb hby at_16) rfl (XT.ii_ne_f hc6) kz) ?_
      show OGo p.tables e below Φ (s₁.setTop (mkF m 19 #[.val (.int xx), .val (.int xf), .val (.int (xf &&& (3 : Int32))), .unset, .unset, .unset] []))
      have Sn7 := S_nu.ext O_0.2
      obtain ⟨T8, X8, e8, st8⟩ := getS2 X0 hx hZ hown (host := "") (Or.inl (ow36 hw)) Via.refl e0 Sn7 (g := (mkF m 19 #[.val (.int xx), .val (.int xf), .val (.int (xf &&& (3 : Int32))), .unset, .unset, .unset] [])) rfl (hb hby at_19)
      refine OGo.st st8 ?_
      show OGo p.tables e below Φ (T8.setTop (mkF m 22 #[.val (.int xx), .val (.int xf), .val (.int (xf &&& (3 : Int32))), .unset, .unset, .unset] [(.ref aN)]))
      refine OGo.st (fun _ kz => XS.astoreN X8.here hx rfl (hb hby at_22) rfl rfl (l' := #[.val (.int xx), .val (.int xf), .val (.int (xf &&& (3 : Int32))), .val (.ref aN), .unset, .unset]) rfl kz) ?_
      show OGo p.tables e below Φ (T8.setTop (mkF m 23 #[.val (.int xx), .val (.int xf), .val (.int (xf &&& (3 : Int32))), .val (.ref aN), .unset, .unset] []))
      refine OGo.st (fun _ kz => XS.goto X8.here hx rfl (pc0 := 23) (pc' := 64) rfl (hb hby at_23) (by decide) (by decide) kz) ?_
      show OGo p.tables e below Φ (T8.setTop (mkF m 64 #[.val (.int xx), .val (.int xf), .val (.int (xf &&& (3 : Int32))), .val (.ref aN), .unset, .unset] []))
      refine OGo.st (fun _ kz => XS.aloadN X8.here hx rfl (hb hby at_64) rfl rfl kz) ?_
      show OGo p.tables e below Φ (T8.setTop (mkF m 65 #[.val (.int xx), .val (.int xf), .val (.int (xf &&& (3 : Int32))), .val (.ref aN), .unset, .unset] [(.ref aN)]))
      obtain ⟨_, T9, L9, X9, hQ9, st9⟩ := own_callSt X8 hx hZ hown (ow30 hw) (ow31 hw) (ow32 hw) (ow33 hw) (by decide) (rm1o l Z a0 hw [] aN h0 n0 Z0 ) e8 (W := 0) (by decide) (by decide) (by decide) (by decide) (pc := 65) (ls := #[.val (.int xx), .val (.int xf), .val (.int (xf &&& (3 : Int32))), .val (.ref aN), .unset, .unset]) (stk := [(.ref aN)]) (by rw [hml]; rfl) (argsL := [(.ref aN)]) (rest := []) (lenOf pd6 rfl) rfl rfl (Nat.le_of_eq rfl) (hb hby at_65)
      obtain ⟨rfl, Nq9, e9⟩ := hQ9
      have N9 := Fr.app N0 Nq9
      refine OGo.st st9 ?_
      show OGo p.tables e below Φ (T9.setTop (mkF m 68 #[.val (.int xx), .val (.int xf), .val (.int (xf &&& (3 : Int32))), .val (.ref aN), .unset, .unset] [(.ref aN)]))
      refine OGo.st (fun _ kz => XS.astore X9.here hx rfl (hb hby at_68) rfl rfl (l' := #[.val (.int xx), .val (.int xf), .val (.int (xf &&& (3 : Int32))), .val (.ref aN), .val (.ref aN), .unset]) rfl kz) ?_
      show OGo p.tables e below Φ (T9.setTop (mkF m 70 #[.val (.int xx), .val (.int xf), .val (.int (xf &&& (3 : Int32))), .val (.ref aN), .val (.ref aN), .unset] []))
      refine OGo.st (fun _ kz => XS.aload X9.here hx rfl (hb hby at_70) rfl rfl kz) ?_
      show OGo p.tables e below Φ (T9.setTop (mkF m 72 #[.val (.int xx), .val (.int xf), .val (.int (xf &&& (3 : Int32))), .val (.ref aN), .val (.ref aN), .unset] [(.ref aN)]))
      refine OGo.st (fun _ kz => XT.ifnonnullYes X9.here hx rfl (pc0 := 72) (pc' := 77) rfl (hb hby at_72) rfl (by decide) (by decide) kz) ?_
      show OGo p.tables e below Φ (T9.setTop (mkF m 77 #[.val (.int xx), .val (.int xf), .val (.int (xf &&& (3 : Int32))), .val (.ref aN), .val (.ref aN), .unset] []))
      refine OGo.st (fun _ kz => XS.aload X9.here hx rfl (hb hby at_77) rfl rfl kz) ?_
      show OGo p.tables e below Φ (T9.setTop (mkF m 79 #[.val (.int xx), .val (.int xf), .val (.int (xf &&& (3 : Int32))), .val (.ref aN), .val (.ref aN), .unset] [(.ref aN)]))
      obtain ⟨_, T10, L10, X10, hQ10, st10⟩ := own_callSt X9 hx hZ hown (ow30 hw) (ow31 hw) (ow32 hw) (ow33 hw) (by decide) (rm1o l Z a0 hw [] aN h0 n0 Z0 ) e9 (W := 0) (by decide) (by decide) (by decide) (by decide) (pc := 79) (ls := #[.val (.int xx), .val (.int xf), .val (.int (xf &&& (3 : Int32))), .val (.ref aN), .val (.ref aN), .unset]) (stk := [(.ref aN)]) (by rw [hml]; rfl) (argsL := [(.ref aN)]) (rest := []) (lenOf pd6 rfl) rfl rfl (Nat.le_of_eq rfl) (hb hby at_79)
      obtain ⟨rfl, Nq10, e10⟩ := hQ10
      have N10 := Fr.app N9 Nq10
      refine OGo.st st10 ?_
      show OGo p.tables e below Φ (T10.setTop (mkF m 82 #[.val (.int xx), .val (.int xf), .val (.int (xf &&& (3 : Int32))), .val (.ref aN), .val (.ref aN), .unset] [(.ref aN)]))
      refine OGo.st (fun _ kz => XS.astore X10.here hx rfl (hb hby at_82) rfl rfl (l' := #[.val (.int xx), .val (.int xf), .val (.int (xf &&& (3 : Int32))), .val (.ref aN), .val (.ref aN), .val (.ref aN)]) rfl kz) ?_
      show OGo p.tables e below Φ (T10.setTop (mkF m 84 #[.val (.int xx), .val (.int xf), .val (.int (xf &&& (3 : Int32))), .val (.ref aN), .val (.ref aN), .val (.ref aN)] []))
      refine OGo.st (fun _ kz => XS.aload X10.here hx rfl (hb hby at_84) rfl rfl kz) ?_
      show OGo p.tables e below Φ (T10.setTop (mkF m 86 #[.val (.int xx), .val (.int xf), .val (.int (xf &&& (3 : Int32))), .val (.ref aN), .val (.ref aN), .val (.ref aN)] [(.ref aN)]))
      refine OGo.st (fun _ kz => XS.aload X10.here hx rfl (hb hby at_86) rfl rfl kz) ?_
      show OGo p.tables e below Φ (T10.setTop (mkF m 88 #[.val (.int xx), .val (.int xf), .val (.int (xf &&& (3 : Int32))), .val (.ref aN), .val (.ref aN), .val (.ref aN)] [(.ref aN), (.ref aN)]))
      refine OGo.st (fun _ kz => XT.acmpYes X10.here hx rfl (pc0 := 88) (pc' := 93) rfl (hb hby at_88) rfl rfl rfl (XT.aa_eq_t rfl) (by decide) (by decide) kz) ?_
      show OGo p.tables e below Φ (T10.setTop (mkF m 93 #[.val (.int xx), .val (.int xf), .val (.int (xf &&& (3 : Int32))), .val (.ref aN), .val (.ref aN), .val (.ref aN)] []))
      refine OGo.st (fun _ kz => XS.aloadN X10.here hx rfl (hb hby at_93) rfl rfl kz) ?_
      show OGo p.tables e below Φ (T10.setTop (mkF m 94 #[.val (.int xx), .val (.int xf), .val (.int (xf &&& (3 : Int32))), .val (.ref aN), .val (.ref aN), .val (.ref aN)] [(.ref aN)]))
      refine OGo.st (fun _ kz => XT.ifnonnullYes X10.here hx rfl (pc0 := 94) (pc' := 111) rfl (hb hby at_94) rfl (by decide) (by decide) kz) ?_
      show OGo p.tables e below Φ (T10.setTop (mkF m 111 #[.val (.int xx), .val (.int xf), .val (.int (xf &&& (3 : Int32))), .val (.ref aN), .val (.ref aN), .val (.ref aN)] []))
      refine OGo.st (fun _ kz => XS.aload X10.here hx rfl (hb hby at_111) rfl rfl kz) ?_
      show OGo p.tables e below Φ (T10.setTop (mkF m 113 #[.val (.int xx), .val (.int xf), .val (.int (xf &&& (3 : Int32))), .val (.ref aN), .val (.ref aN), .val (.ref aN)] [(.ref aN)]))
      refine OGo.st (fun _ kz => XS.aloadN X10.here hx rfl (hb hby at_113) rfl rfl kz) ?_
      show OGo p.tables e below Φ (T10.setTop (mkF m 114 #[.val (.int xx), .val (.int xf), .val (.int (xf &&& (3 : Int32))), .val (.ref aN), .val (.ref aN), .val (.ref aN)] [(.ref aN), (.ref aN)]))
      refine OGo.st (fun _ kz => XT.acmpNo X10.here hx rfl (hb hby at_114) rfl rfl rfl (XT.aa_ne_f rfl) kz) ?_
      show OGo p.tables e below Φ (T10.setTop (mkF m 117 #[.val (.int xx), .val (.int xf), .val (.int (xf &&& (3 : Int32))), .val (.ref aN), .val (.ref aN), .val (.ref aN)] []))
      refine OGo.st (fun _ kz => XS.iconst X10.here hx rfl (hb hby at_117) kz) ?_
      show OGo p.tables e below Φ (T10.setTop (mkF m 118 #[.val (.int xx), .val (.int xf), .val (.int (xf &&& (3 : Int32))), .val (.ref aN), .val (.ref aN), .val (.ref aN)] [(.int (1 : Int32))]))
      refine OGo.st (fun _ kz => XS.goto X10.here hx rfl (pc0 := 118) (pc' := 122) rfl (hb hby at_118) (by decide) (by decide) kz) ?_
      show OGo p.tables e below Φ (T10.setTop (mkF m 122 #[.val (.int xx), .val (.int xf), .val (.int (xf &&& (3 : Int32))), .val (.ref aN), .val (.ref aN), .val (.ref aN)] [(.int (1 : Int32))]))
      refine OGo.fin X10 hlk (v := (some (.int (1 : Int32)))) (fun h => by rw [hret] at h; cases h) (by decide) (by decide) (fun fs hr => X10.ireturnOut hx hret rfl (by simp) (hb hby at_122) hr) fun U eU hF => hΦ _ _ _ ?_ hF
      rw [eU, e10]
      show Q_rm0 Z xx xf aN qc ac cc bv h0 n0 _ _ _
      exact ⟨rfl, N10⟩
    · refine OGo.st (fun _ kz => XS.icmpYes X0.here hx rfl (pc0 := 16) (pc' := 26) rfl (hb hby at_16) rfl (XT.ii_ne_t hc6) (by decide) (by decide) kz) ?_
      show OGo p.tables e below Φ (s₁.setTop (mkF m 26 #[.val (.int xx), .val (.int xf), .val (.int (xf &&& (3 : Int32))), .unset, .unset, .unset] []))
      refine OGo.st (fun _ kz => XS.iloadN X0.here hx rfl (hb hby at_26) rfl kz) ?_
      show OGo p.tables e below Φ (s₁.setTop (mkF m 27 #[.val (.int xx), .val (.int xf), .val (.int (xf &&& (3 : Int32))), .unset, .unset, .unset] [(.int (xf &&& (3 : Int32)))]))
      refine OGo.st (fun _ kz => XS.iconst X0.here hx rfl (hb hby at_27) kz) ?_
      show OGo p.tables e below Φ (s₁.setTop (mkF m 28 #[.val (.int xx), .val (.int xf), .val (.int (xf &&& (3 : Int32))), .unset, .unset, .unset] [(.int (3 : Int32)), (.int (xf &&& (3 : Int32)))]))
      by_cases hc11 : (xf &&& (3 : Int32)) = (3 : Int32)
      · refine OGo.st (fun _ kz => XS.icmpNo X0.here hx rfl (hb hby at_28) rfl (XT.ii_ne_f hc11) kz) ?_
        show OGo p.tables e below Φ (s₁.setTop (mkF m 31 #[.val (.int xx), .val (.int xf), .val (.int (xf &&& (3 : Int32))), .unset, .unset, .unset] []))
        refine OGo.st (fun _ kz => XS.iconst X0.here hx rfl (hb hby at_31) kz) ?_
        show OGo p.tables e below Φ (s₁.setTop (mkF m 32 #[.val (.int xx), .val (.int xf), .val (.int (xf &&& (3 : Int32))), .unset, .unset, .unset] [(.int (1 : Int32))]))
        obtain ⟨T12, h12, c12, X12, e12, E12, Ar12, st12⟩ := newP (aty := .char) X0 hx hZ (ow0 hw) e0 (g := (mkF m 32 #[.val (.int xx), .val (.int xf), .val (.int (xf &&& (3 : Int32))), .unset, .unset, .unset] [(.int (1 : Int32))])) rfl (hb hby at_32) rfl (by decide) (cap := 1) (by decide) (by decide) (by decide) (by decide)
        obtain ⟨b12, g12⟩ : ∃ z, z = h0.size := ⟨_, rfl⟩
        rw [← g12] at Ar12 st12
        have F13 := O_0.ext E12
        have gb12 : n0 ≤ b12 := Nat.le_trans Z0 (Nat.le_of_eq g12.symm)
        have Zs12 : n0 ≤ h12.size := Nat.le_trans Z0 E12.1
        have V12 : Arv Z h12 b12 c12 .char (1 : Int32) [(.int (0 : Int32))] (.int (0 : Int32)) := (Arv.new Ar12 (by decide)).pad (pad_rep [] _ 1)
        refine OGo.st st12 ?_
        show OGo p.tables e below Φ (T12.setTop (mkF m 34 #[.val (.int xx), .val (.int xf), .val (.int (xf &&& (3 : Int32))), .unset, .unset, .unset] [(.ref b12)]))
        refine OGo.st (fun _ kz => XS.astore X12.here hx rfl (hb hby at_34) rfl rfl (l' := #[.val (.int xx), .val (.int xf), .val (.int (xf &&& (3 : Int32))), .unset, .val (.ref b12), .unset]) rfl kz) ?_
        show OGo p.tables e below Φ (T12.setTop (mkF m 36 #[.val (.int xx), .val (.int xf), .val (.int (xf &&& (3 : Int32))), .unset, .val (.ref b12), .unset] []))
        refine OGo.st (fun _ kz => XS.aload X12.here hx rfl (hb hby at_36) rfl rfl kz) ?_
        show OGo p.tables e below Φ (T12.setTop (mkF m 38 #[.val (.int xx), .val (.int xf), .val (.int (xf &&& (3 : Int32))), .unset, .val (.ref b12), .unset] [(.ref b12)]))
        refine OGo.st (fun _ kz => XS.iconst X12.here hx rfl (hb hby at_38) kz) ?_
        show OGo p.tables e below Φ (T12.setTop (mkF m 39 #[.val (.int xx), .val (.int xf), .val (.int (xf &&& (3 : Int32))), .unset, .val (.ref b12), .unset] [(.int (0 : Int32)), (.ref b12)]))
        refine OGo.st (fun _ kz => XS.iloadN X12.here hx rfl (hb hby at_39) rfl kz) ?_
        show OGo p.tables e below Φ (T12.setTop (mkF m 40 #[.val (.int xx), .val (.int xf), .val (.int (xf &&& (3 : Int32))), .unset, .val (.ref b12), .unset] [(.int xx), (.int (0 : Int32)), (.ref b12)]))
        refine OGo.st (fun _ kz => XS.sipush X12.here hx rfl (hb hby at_40) kz) ?_
        show OGo p.tables e below Φ (T12.setTop (mkF m 43 #[.val (.int xx), .val (.int xf), .val (.int (xf &&& (3 : Int32))), .unset, .val (.ref b12), .unset] [(.int (255 : Int32)), (.int xx), (.int (0 : Int32)), (.ref b12)]))
        refine OGo.st (fun _ kz => XS.iand X12.here hx rfl (hb hby at_43) rfl kz) ?_
        show OGo p.tables e below Φ (T12.setTop (mkF m 44 #[.val (.int xx), .val (.int xf), .val (.int (xf &&& (3 : Int32))), .unset, .val (.ref b12), .unset] [(.int (xx &&& (255 : Int32))), (.int (0 : Int32)), (.ref b12)]))
        refine OGo.st (fun _ kz => XT.i2c X12.here hx rfl (hb hby at_44) rfl kz) ?_
        show OGo p.tables e below Φ (T12.setTop (mkF m 45 #[.val (.int xx), .val (.int xf), .val (.int (xf &&& (3 : Int32))), .unset, .val (.ref b12), .unset] [(.int ((xx &&& (255 : Int32)).toUInt32.toUInt16.toUInt32.toInt32)), (.int (0 : Int32)), (.ref b12)]))
        obtain ⟨cl14, Aq14, Cq14, S14, M14, H14, G14⟩ := id V12
        have in14 : ¬ ((0 : Int32) < 0 ∨ cl14.slots.size ≤ (0 : Int32).toNatClampNeg) := inb_of S14 ⟨by decide, by decide⟩
        obtain ⟨T14, h14, X14, e14, W14, st14⟩ := stC X12 hx hZ e12 Aq14 in14 (g := (mkF m 45 #[.val (.int xx), .val (.int xf), .val (.int (xf &&& (3 : Int32))), .unset, .val (.ref b12), .unset] [(.int ((xx &&& (255 : Int32)).toUInt32.toUInt16.toUInt32.toInt32)), (.int (0 : Int32)), (.ref b12)])) rfl rfl (hb hby at_45)
        have W14 : Wr h12 h14 b12 (0 : Int32).toNatClampNeg (.int (nar .char ((xx &&& (255 : Int32)).toUInt32.toUInt16.toUInt32.toInt32))) := W14
        have F15 := F13.wr W14 gb12
        have V14 : Arv Z h14 b12 c12 .char (1 : Int32) [(.int (nar .char ((xx &&& (255 : Int32)).toUInt32.toUInt16.toUInt32.toInt32)))] (.int (0 : Int32)) := Arv.set Aq14 Cq14 S14 M14 H14 G14 (fits_nar_char _) W14 0 (by decide) (by show 0 < 1; decide)
        have N14 := Fr.snoc X14 N0 gb12
        have Zs14 : n0 ≤ h14.size := by rw [W14.size]; exact Zs12
        refine OGo.st st14 ?_
        show OGo p.tables e below Φ (T14.setTop (mkF m 46 #[.val (.int xx), .val (.int xf), .val (.int (xf &&& (3 : Int32))), .unset, .val (.ref b12), .unset] []))
        obtain ⟨T16, h16, X16, e16, E16, A16, D16, U16, st16⟩ := newO X14 hx hZ hown (ow1 hw) (ow2 hw) (ow3 hw) e14 (g := (mkF m 46 #[.val (.int xx), .val (.int xf), .val (.int (xf &&& (3 : Int32))), .unset, .val (.ref b12), .unset] [])) rfl (hb hby at_46) (by decide) (by decide)
        obtain ⟨b16, g16⟩ : ∃ z, z = h14.size := ⟨_, rfl⟩
        rw [← g16] at A16 D16 st16 U16
        have ne16_b12 : b12 ≠ b16 := by rw [g16]; exact Nat.ne_of_lt V14.lt
        have F17 := F15.ext E16
        have F18 := V14.ext E16
        have gb16 : n0 ≤ b16 := Nat.le_trans Zs14 (Nat.le_of_eq g16.symm)
        have Zs16 : n0 ≤ h16.size := Nat.le_trans Zs14 E16.1
        have F16_27 : Fld Z h16 b16 "java/lang/String" "coder" "B" (.int (0 : Int32)) := D16 (Or.inr (ow27 hw)) (ty := .byte) (by decide)
        have F16_29 : Fld Z h16 b16 "java/lang/String" "value" "[B" .null := D16 (Or.inr (ow29 hw)) (ty := (.array .byte)) (by decide)
        refine OGo.st (st16) ?_
        show OGo p.tables e below Φ (T16.setTop (mkF m 49 #[.val (.int xx), .val (.int xf), .val (.int (xf &&& (3 : Int32))), .unset, .val (.ref b12), .unset] [(.ref b16)]))
        refine OGo.st (fun _ kz => XS.dup X16.here hx rfl (hb hby at_49) rfl rfl kz) ?_
        show OGo p.tables e below Φ (T16.setTop (mkF m 50 #[.val (.int xx), .val (.int xf), .val (.int (xf &&& (3 : Int32))), .unset, .val (.ref b12), .unset] [(.ref b16), (.ref b16)]))
        refine OGo.st (fun _ kz => XS.aload X16.here hx rfl (hb hby at_50) rfl rfl kz) ?_
        show OGo p.tables e below Φ (T16.setTop (mkF m 52 #[.val (.int xx), .val (.int xf), .val (.int (xf &&& (3 : Int32))), .unset, .val (.ref b12), .unset] [(.ref b12), (.ref b16), (.ref b16)]))
        obtain ⟨_, T19, L19, X19, hQ19, st19⟩ := own_callSp X16 hx hZ rfl hown (ow4 hw) (ow5 hw) (ow3 hw) (ow6 hw) (by decide) (rsi1 l Z a0 hw [] b16 b12 c12 qc (nar .char ((xx &&& (255 : Int32)).toUInt32.toUInt16.toUInt32.toInt32)) h16 n0 Zs16 A16 gb16 F16_29 F16_27 F18 (Ne.symm ne16_b12) (S_cs.ext F17.2) hq (own_lat _)) e16 (W := 1) (by decide) (by decide) (by decide) (by decide) (pc := 52) (ls := #[.val (.int xx), .val (.int xf), .val (.int (xf &&& (3 : Int32))), .unset, .val (.ref b12), .unset]) (stk := [(.ref b12), (.ref b16), (.ref b16)]) (by rw [hml]; rfl) (a := b16) (argsL := [(.ref b12)]) (rest := [(.ref b16)]) (lenOf pd7 rfl) rfl rfl (Nat.le_of_eq rfl) (hb hby at_52)
        obtain ⟨rfl, Nq19, Kq19, Eq19, b19, cb19, Fv19, Fc19, Vq19, hz19⟩ := hQ19
        have nq19_b12 : b12 ≠ b19 := Nat.ne_of_lt (Nat.lt_of_lt_of_le F18.lt hz19)
        have nq19_b16 : b16 ≠ b19 := Nat.ne_of_lt (Nat.lt_of_lt_of_le A16.lt hz19)
        have gq19 : n0 ≤ b19 := Nat.le_trans Zs16 hz19
        have N19 := Fr.app N14 Nq19
        have Zs19 : n0 ≤ T19.heap.size := Nat.le_trans Zs16 Kq19.1
        have F20 := F17.keep Kq19 (allS gb16 all0)
        have F21 := F18.keep Kq19 (ninS ne16_b12 nin0)
        refine OGo.st st19 ?_
        show OGo p.tables e below Φ (T19.setTop (mkF m 55 #[.val (.int xx), .val (.int xf), .val (.int (xf &&& (3 : Int32))), .unset, .val (.ref b12), .unset] [(.ref b16)]))
        refine OGo.st (fun _ kz => XS.astoreN X19.here hx rfl (hb hby at_55) rfl rfl (l' := #[.val (.int xx), .val (.int xf), .val (.int (xf &&& (3 : Int32))), .val (.ref b16), .val (.ref b12), .unset]) rfl kz) ?_
        show OGo p.tables e below Φ (T19.setTop (mkF m 56 #[.val (.int xx), .val (.int xf), .val (.int (xf &&& (3 : Int32))), .val (.ref b16), .val (.ref b12), .unset] []))
        refine OGo.st (fun _ kz => XS.goto X19.here hx rfl (pc0 := 56) (pc' := 64) rfl (hb hby at_56) (by decide) (by decide) kz) ?_
        show OGo p.tables e below Φ (T19.setTop (mkF m 64 #[.val (.int xx), .val (.int xf), .val (.int (xf &&& (3 : Int32))), .val (.ref b16), .val (.ref b12), .unset] []))
        refine OGo.st (fun _ kz => XS.aloadN X19.here hx rfl (hb hby at_64) rfl rfl kz) ?_
        show OGo p.tables e below Φ (T19.setTop (mkF m 65 #[.val (.int xx), .val (.int xf), .val (.int (xf &&& (3 : Int32))), .val (.ref b16), .val (.ref b12), .unset] [(.ref b16)]))
        obtain ⟨_, T22, L22, X22, hQ22, st22⟩ := own_callSt X19 hx hZ hown (ow30 hw) (ow31 hw) (ow32 hw) (ow33 hw) (by decide) (rm1o l Z a0 hw [] b16 T19.heap n0 Zs19 ) rfl (W := 0) (by decide) (by decide) (by decide) (by decide) (pc := 65) (ls := #[.val (.int xx), .val (.int xf), .val (.int (xf &&& (3 : Int32))), .val (.ref b16), .val (.ref b12), .unset]) (stk := [(.ref b16)]) (by rw [hml]; rfl) (argsL := [(.ref b16)]) (rest := []) (lenOf pd6 rfl) rfl rfl (Nat.le_of_eq rfl) (hb hby at_65)
        obtain ⟨rfl, Nq22, e22⟩ := hQ22
        have N22 := Fr.app N19 Nq22
        refine OGo.st st22 ?_
        show OGo p.tables e below Φ (T22.setTop (mkF m 68 #[.val (.int xx), .val (.int xf), .val (.int (xf &&& (3 : Int32))), .val (.ref b16), .val (.ref b12), .unset] [(.ref b16)]))
        refine OGo.st (fun _ kz => XS.astore X22.here hx rfl (hb hby at_68) rfl rfl (l' := #[.val (.int xx), .val (.int xf), .val (.int (xf &&& (3 : Int32))), .val (.ref b16), .val (.ref b16), .unset]) rfl kz) ?_
        show OGo p.tables e below Φ (T22.setTop (mkF m 70 #[.val (.int xx), .val (.int xf), .val (.int (xf &&& (3 : Int32))), .val (.ref b16), .val (.ref b16), .unset] []))
        refine OGo.st (fun _ kz => XS.aload X22.here hx rfl (hb hby at_70) rfl rfl kz) ?_
        show OGo p.tables e below Φ (T22.setTop (mkF m 72 #[.val (.int xx), .val (.int xf), .val (.int (xf &&& (3 : Int32))), .val (.ref b16), .val (.ref b16), .unset] [(.ref b16)]))
        refine OGo.st (fun _ kz => XT.ifnonnullYes X22.here hx rfl (pc0 := 72) (pc' := 77) rfl (hb hby at_72) rfl (by decide) (by decide) kz) ?_
        show OGo p.tables e below Φ (T22.setTop (mkF m 77 #[.val (.int xx), .val (.int xf), .val (.int (xf &&& (3 : Int32))), .val (.ref b16), .val (.ref b16), .unset] []))
        refine OGo.st (fun _ kz => XS.aload X22.here hx rfl (hb hby at_77) rfl rfl kz) ?_
        show OGo p.tables e below Φ (T22.setTop (mkF m 79 #[.val (.int xx), .val (.int xf), .val (.int (xf &&& (3 : Int32))), .val (.ref b16), .val (.ref b16), .unset] [(.ref b16)]))
        obtain ⟨_, T23, L23, X23, hQ23, st23⟩ := own_callSt X22 hx hZ hown (ow30 hw) (ow31 hw) (ow32 hw) (ow33 hw) (by decide) (rm1o l Z a0 hw [] b16 T19.heap n0 Zs19 ) e22 (W := 0) (by decide) (by decide) (by decide) (by decide) (pc := 79) (ls := #[.val (.int xx), .val (.int xf), .val (.int (xf &&& (3 : Int32))), .val (.ref b16), .val (.ref b16), .unset]) (stk := [(.ref b16)]) (by rw [hml]; rfl) (argsL := [(.ref b16)]) (rest := []) (lenOf pd6 rfl) rfl rfl (Nat.le_of_eq rfl) (hb hby at_79)
        obtain ⟨rfl, Nq23, e23⟩ := hQ23
        have N23 := Fr.app N22 Nq23
        refine OGo.st st23 ?_
        show OGo p.tables e below Φ (T23.setTop (mkF m 82 #[.val (.int xx), .val (.int xf), .val (.int (xf &&& (3 : Int32))), .val (.ref b16), .val (.ref b16), .unset] [(.ref b16)]))
        refine OGo.st (fun _ kz => XS.astore X23.here hx rfl (hb hby at_82) rfl rfl (l' := #[.val (.int xx), .val (.int xf), .val (.int (xf &&& (3 : Int32))), .val (.ref b16), .val (.ref b16), .val (.ref b16)]) rfl kz) ?_
        show OGo p.tables e below Φ (T23.setTop (mkF m 84 #[.val (.int xx), .val (.int xf), .val (.int (xf &&& (3 : Int32))), .val (.ref b16), .val (.ref b16), .val (.ref b16)] []))
        refine OGo.st (fun _ kz => XS.aload X23.here hx rfl (hb hby at_84) rfl rfl kz) ?_
        show OGo p.tables e below Φ (T23.setTop (mkF m 86 #[.val (.int xx), .val (.int xf), .val (.int (xf &&& (3 : Int32))), .val (.ref b16), .val (.ref b16), .val (.ref b16)] [(.ref b16)]))
        refine OGo.st (fun _ kz => XS.aload X23.here hx rfl (hb hby at_86) rfl rfl kz) ?_
        show OGo p.tables e below Φ (T23.setTop (mkF m 88 #[.val (.int xx), .val (.int xf), .val (.int (xf &&& (3 : Int32))), .val (.ref b16), .val (.ref b16), .val (.ref b16)] [(.ref b16), (.ref b16)]))
        refine OGo.st (fun _ kz => XT.acmpYes X23.here hx rfl (pc0 := 88) (pc' := 93) rfl (hb hby at_88) rfl rfl rfl (XT.aa_eq_t rfl) (by decide) (by decide) kz) ?_
        show OGo p.tables e below Φ (T23.setTop (mkF m 93 #[.val (.int xx), .val (.int xf), .val (.int (xf &&& (3 : Int32))), .val (.ref b16), .val (.ref b16), .val (.ref b16)] []))
        refine OGo.st (fun _ kz => XS.aloadN X23.here hx rfl (hb hby at_93) rfl rfl kz) ?_
        show OGo p.tables e below Φ (T23.setTop (mkF m 94 #[.val (.int xx), .val (.int xf), .val (.int (xf &&& (3 : Int32))), .val (.ref b16), .val (.ref b16), .val (.ref b16)] [(.ref b16)]))
        refine OGo.st (fun _ kz => XT.ifnonnullYes X23.here hx rfl (pc0 := 94) (pc' := 111) rfl (hb hby at_94) rfl (by decide) (by decide) kz) ?_
        show OGo p.tables e below Φ (T23.setTop (mkF m 111 #[.val (.int xx), .val (.int xf), .val (.int (xf &&& (3 : Int32))), .val (.ref b16), .val (.ref b16), .val (.ref b16)] []))
        refine OGo.st (fun _ kz => XS.aload X23.here hx rfl (hb hby at_111) rfl rfl kz) ?_
        show OGo p.tables e below Φ (T23.setTop (mkF m 113 #[.val (.int xx), .val (.int xf), .val (.int (xf &&& (3 : Int32))), .val (.ref b16), .val (.ref b16), .val (.ref b16)] [(.ref b16)]))
        refine OGo.st (fun _ kz => XS.aloadN X23.here hx rfl (hb hby at_113) rfl rfl kz) ?_
        show OGo p.tables e below Φ (T23.setTop (mkF m 114 #[.val (.int xx), .val (.int xf), .val (.int (xf &&& (3 : Int32))), .val (.ref b16), .val (.ref b16), .val (.ref b16)] [(.ref b16), (.ref b16)]))
        refine OGo.st (fun _ kz => XT.acmpNo X23.here hx rfl (hb hby at_114) rfl rfl rfl (XT.aa_ne_f rfl) kz) ?_
        show OGo p.tables e below Φ (T23.setTop (mkF m 117 #[.val (.int xx), .val (.int xf), .val (.int (xf &&& (3 : Int32))), .val (.ref b16), .val (.ref b16), .val (.ref b16)] []))
        refine OGo.st (fun _ kz => XS.iconst X23.here hx rfl (hb hby at_117) kz) ?_
        show OGo p.tables e below Φ (T23.setTop (mkF m 118 #[.val (.int xx), .val (.int xf), .val (.int (xf &&& (3 : Int32))), .val (.ref b16), .val (.ref b16), .val (.ref b16)] [(.int (1 : Int32))]))
        refine OGo.st (fun _ kz => XS.goto X23.here hx rfl (pc0 := 118) (pc' := 122) rfl (hb hby at_118) (by decide) (by decide) kz) ?_
        show OGo p.tables e below Φ (T23.setTop (mkF m 122 #[.val (.int xx), .val (.int xf), .val (.int (xf &&& (3 : Int32))), .val (.ref b16), .val (.ref b16), .val (.ref b16)] [(.int (1 : Int32))]))
        refine OGo.fin X23 hlk (v := (some (.int (1 : Int32)))) (fun h => by rw [hret] at h; cases h) (by decide) (by decide) (fun fs hr => X23.ireturnOut hx hret rfl (by simp) (hb hby at_122) hr) fun U eU hF => hΦ _ _ _ ?_ hF
        rw [eU, e23]
        show Q_rm0 Z xx xf aN qc ac cc bv h0 n0 _ _ _
        exact ⟨rfl, N23⟩
      · refine OGo.st (fun _ kz => XS.icmpYes X0.here hx rfl (pc0 := 28) (pc' := 59) rfl (hb hby at_28) rfl (XT.ii_ne_t hc11) (by decide) (by decide) kz) ?_
        show OGo p.tables e below Φ (s₁.setTop (mkF m 59 #[.val (.int xx), .val (.int xf), .val (.int (xf &&& (3 : Int32))), .unset, .unset, .unset] []))
        refine OGo.st (fun _ kz => XS.iloadN X0.here hx rfl (hb hby at_59) rfl kz) ?_
        show OGo p.tables e below Φ (s₁.setTop (mkF m 60 #[.val (.int xx), .val (.int xf), .val (.int (xf &&& (3 : Int32))), .unset, .unset, .unset] [(.int xx)]))
        obtain ⟨_, T24, L24, X24, hQ24, st24⟩ := own_callSt X0 hx hZ hown (ow37 hw) (ow38 hw) (ow39 hw) (ow40 hw) (by decide) (rmbv l Z a0 hw [] xx ac cc bv h0 n0 Z0 (S_hi.ext O_0.2) (S_ca.ext O_0.2) O_0.2 B_x) e0 (W := 0) (by decide) (by decide) (by decide) (by decide) (pc := 60) (ls := #[.val (.int xx), .val (.int xf), .val (.int (xf &&& (3 : Int32))), .unset, .unset, .unset]) (stk := [(.int xx)]) (by rw [hml]; rfl) (argsL := [(.int xx)]) (rest := []) (lenOf pd8 rfl) rfl rfl (Nat.le_of_eq rfl) (hb hby at_60)
        obtain ⟨bx24, rfl, Nq24, Kq24, Eq24⟩ := hQ24
        have N24 := Fr.app N0 Nq24
        have Zs24 : n0 ≤ T24.heap.size := Nat.le_trans Z0 Kq24.1
        have F25 := O_0.keep Kq24 all0
        refine OGo.st st24 ?_
        show OGo p.tables e below Φ (T24.setTop (mkF m 63 #[.val (.int xx), .val (.int xf), .val (.int (xf &&& (3 : Int32))), .unset, .unset, .unset] [(.ref bx24)]))
        refine OGo.st (fun _ kz => XS.astoreN X24.here hx rfl (hb hby at_63) rfl rfl (l' := #[.val (.int xx), .val (.int xf), .val (.int (xf &&& (3 : Int32))), .val (.ref bx24), .unset, .unset]) rfl kz) ?_
        show OGo p.tables e below Φ (T24.setTop (mkF m 64 #[.val (.int xx), .val (.int xf), .val (.int (xf &&& (3 : Int32))), .val (.ref bx24), .unset, .unset] []))
        refine OGo.st (fun _ kz => XS.aloadN X24.here hx rfl (hb hby at_64) rfl rfl kz) ?_
        show OGo p.tables e below Φ (T24.setTop (mkF m 65 #[.val (.int xx), .val (.int xf), .val (.int (xf &&& (3 : Int32))), .val (.ref bx24), .unset, .unset] [(.ref bx24)]))
        obtain ⟨_, T26, L26, X26, hQ26, st26⟩ := own_callSt X24 hx hZ hown (ow30 hw) (ow31 hw) (ow32 hw) (ow33 hw) (by decide) (rm1o l Z a0 hw [] bx24 T24.heap n0 Zs24 ) rfl (W := 0) (by decide) (by decide) (by decide) (by decide) (pc := 65) (ls := #[.val (.int xx), .val (.int xf), .val (.int (xf &&& (3 : Int32))), .val (.ref bx24), .unset, .unset]) (stk := [(.ref bx24)]) (by rw [hml]; rfl) (argsL := [(.ref bx24)]) (rest := []) (lenOf pd6 rfl) rfl rfl (Nat.le_of_eq rfl) (hb hby at_65)
        obtain ⟨rfl, Nq26, e26⟩ := hQ26
        have N26 := Fr.app N24 Nq26
        refine OGo.st st26 ?_
        show OGo p.tables e below Φ (T26.setTop (mkF m 68 #[.val (.int xx), .val (.int xf), .val (.int (xf &&& (3 : Int32))), .val (.ref bx24), .unset, .unset] [(.ref bx24)]))
        refine OGo.st (fun _ kz => XS.astore X26.here hx rfl (hb hby at_68) rfl rfl (l' := #[.val (.int xx), .val (.int xf), .val (.int (xf &&& (3 : Int32))), .val (.ref bx24), .val (.ref bx24), .unset]) rfl kz) ?_
        show OGo p.tables e below Φ (T26.setTop (mkF m 70 #[.val (.int xx), .val (.int xf), .val (.int (xf &&& (3 : Int32))), .val (.ref bx24), .val (.ref bx24), .unset] []))
        refine OGo.st (fun _ kz => XS.aload X26.here hx rfl (hb hby at_70) rfl rfl kz) ?_
        show OGo p.tables e below Φ (T26.setTop (mkF m 72 #[.val (.int xx), .val (.int xf), .val (.int (xf &&& (3 : Int32))), .val (.ref bx24), .val (.ref bx24), .unset] [(.ref bx24)]))
        refine OGo.st (fun _ kz => XT.ifnonnullYes X26.here hx rfl (pc0 := 72) (pc' := 77) rfl (hb hby at_72) rfl (by decide) (by decide) kz) ?_
        show OGo p.tables e below Φ (T26.setTop (mkF m 77 #[.val (.int xx), .val (.int xf), .val (.int (xf &&& (3 : Int32))), .val (.ref bx24), .val (.ref bx24), .unset] []))
        refine OGo.st (fun _ kz => XS.aload X26.here hx rfl (hb hby at_77) rfl rfl kz) ?_
        show OGo p.tables e below Φ (T26.setTop (mkF m 79 #[.val (.int xx), .val (.int xf), .val (.int (xf &&& (3 : Int32))), .val (.ref bx24), .val (.ref bx24), .unset] [(.ref bx24)]))
        obtain ⟨_, T27, L27, X27, hQ27, st27⟩ := own_callSt X26 hx hZ hown (ow30 hw) (ow31 hw) (ow32 hw) (ow33 hw) (by decide) (rm1o l Z a0 hw [] bx24 T24.heap n0 Zs24 ) e26 (W := 0) (by decide) (by decide) (by decide) (by decide) (pc := 79) (ls := #[.val (.int xx), .val (.int xf), .val (.int (xf &&& (3 : Int32))), .val (.ref bx24), .val (.ref bx24), .unset]) (stk := [(.ref bx24)]) (by rw [hml]; rfl) (argsL := [(.ref bx24)]) (rest := []) (lenOf pd6 rfl) rfl rfl (Nat.le_of_eq rfl) (hb hby at_79)
        obtain ⟨rfl, Nq27, e27⟩ := hQ27
        have N27 := Fr.app N26 Nq27
        refine OGo.st st27 ?_
        show OGo p.tables e below Φ (T27.setTop (mkF m 82 #[.val (.int xx), .val (.int xf), .val (.int (xf &&& (3 : Int32))), .val (.ref bx24), .val (.ref bx24), .unset] [(.ref bx24)]))
        refine OGo.st (fun _ kz => XS.astore X27.here hx rfl (hb hby at_82) rfl rfl (l' := #[.val (.int xx), .val (.int xf), .val (.int (xf &&& (3 : Int32))), .val (.ref bx24), .val (.ref bx24), .val (.ref bx24)]) rfl kz) ?_
        show OGo p.tables e below Φ (T27.setTop (mkF m 84 #[.val (.int xx), .val (.int xf), .val (.int (xf &&& (3 : Int32))), .val (.ref bx24), .val (.ref bx24), .val (.ref bx24)] []))
        refine OGo.st (fun _ kz => XS.aload X27.here hx rfl (hb hby at_84) rfl rfl kz) ?_
        show OGo p.tables e below Φ (T27.setTop (mkF m 86 #[.val (.int xx), .val (.int xf), .val (.int (xf &&& (3 : Int32))), .val (.ref bx24), .val (.ref bx24), .val (.ref bx24)] [(.ref bx24)]))
        refine OGo.st (fun _ kz => XS.aload X27.here hx rfl (hb hby at_86) rfl rfl kz) ?_
        show OGo p.tables e below Φ (T27.setTop (mkF m 88 #[.val (.int xx), .val (.int xf), .val (.int (xf &&& (3 : Int32))), .val (.ref bx24), .val (.ref bx24), .val (.ref bx24)] [(.ref bx24), (.ref bx24)]))
        refine OGo.st (fun _ kz => XT.acmpYes X27.here hx rfl (pc0 := 88) (pc' := 93) rfl (hb hby at_88) rfl rfl rfl (XT.aa_eq_t rfl) (by decide) (by decide) kz) ?_
        show OGo p.tables e below Φ (T27.setTop (mkF m 93 #[.val (.int xx), .val (.int xf), .val (.int (xf &&& (3 : Int32))), .val (.ref bx24), .val (.ref bx24), .val (.ref bx24)] []))
        refine OGo.st (fun _ kz => XS.aloadN X27.here hx rfl (hb hby at_93) rfl rfl kz) ?_
        show OGo p.tables e below Φ (T27.setTop (mkF m 94 #[.val (.int xx), .val (.int xf), .val (.int (xf &&& (3 : Int32))), .val (.ref bx24), .val (.ref bx24), .val (.ref bx24)] [(.ref bx24)]))
        refine OGo.st (fun _ kz => XT.ifnonnullYes X27.here hx rfl (pc0 := 94) (pc' := 111) rfl (hb hby at_94) rfl (by decide) (by decide) kz) ?_
        show OGo p.tables e below Φ (T27.setTop (mkF m 111 #[.val (.int xx), .val (.int xf), .val (.int (xf &&& (3 : Int32))), .val (.ref bx24), .val (.ref bx24), .val (.ref bx24)] []))
        refine OGo.st (fun _ kz => XS.aload X27.here hx rfl (hb hby at_111) rfl rfl kz) ?_
        show OGo p.tables e below Φ (T27.setTop (mkF m 113 #[.val (.int xx), .val (.int xf), .val (.int (xf &&& (3 : Int32))), .val (.ref bx24), .val (.ref bx24), .val (.ref bx24)] [(.ref bx24)]))
        refine OGo.st (fun _ kz => XS.aloadN X27.here hx rfl (hb hby at_113) rfl rfl kz) ?_
        show OGo p.tables e below Φ (T27.setTop (mkF m 114 #[.val (.int xx), .val (.int xf), .val (.int (xf &&& (3 : Int32))), .val (.ref bx24), .val (.ref bx24), .val (.ref bx24)] [(.ref bx24), (.ref bx24)]))
        refine OGo.st (fun _ kz => XT.acmpNo X27.here hx rfl (hb hby at_114) rfl rfl rfl (XT.aa_ne_f rfl) kz) ?_
        show OGo p.tables e below Φ (T27.setTop (mkF m 117 #[.val (.int xx), .val (.int xf), .val (.int (xf &&& (3 : Int32))), .val (.ref bx24), .val (.ref bx24), .val (.ref bx24)] []))
        refine OGo.st (fun _ kz => XS.iconst X27.here hx rfl (hb hby at_117) kz) ?_
        show OGo p.tables e below Φ (T27.setTop (mkF m 118 #[.val (.int xx), .val (.int xf), .val (.int (xf &&& (3 : Int32))), .val (.ref bx24), .val (.ref bx24), .val (.ref bx24)] [(.int (1 : Int32))]))
        refine OGo.st (fun _ kz => XS.goto X27.here hx rfl (pc0 := 118) (pc' := 122) rfl (hb hby at_118) (by decide) (by decide) kz) ?_
        show OGo p.tables e below Φ (T27.setTop (mkF m 122 #[.val (.int xx), .val (.int xf), .val (.int (xf &&& (3 : Int32))), .val (.ref bx24), .val (.ref bx24), .val (.ref bx24)] [(.int (1 : Int32))]))
        refine OGo.fin X27 hlk (v := (some (.int (1 : Int32)))) (fun h => by rw [hret] at h; cases h) (by decide) (by decide) (fun fs hr => X27.ireturnOut hx hret rfl (by simp) (hb hby at_122) hr) fun U eU hF => hΦ _ _ _ ?_ hF
        rw [eU, e27]
        show Q_rm0 Z xx xf aN qc ac cc bv h0 n0 _ _ _
        exact ⟨rfl, N27⟩

set_option maxRecDepth 65536 in
set_option maxHeartbeats 40000000 in
theorem comes_1 {Post : Tables → Env → Array Value → State → Outcome → State → Prop} (hpost : ∀ tb e args s v u, (limb_1_1.after args s (.returned v) u = true ∧ limb_1_2.after args s (.returned v) u = true ∧ True) → FrameEnd s (.returned v) u (Jvm.fieldLocs frame_1_writes args s ++ Jvm.arrayLocs frame_1_arrays args s ++ Jvm.staticLocs frame_1_statics s) 16 128 → Post tb e args s (.returned v) u) :
    ArmFor flags0 classFile x code maxLocals ret World_1 tables_1 room_1 Calls_1 rest_1 Pre_1 Post := by
  intro l hfl _ _ p e ha hc hk s m args below hf hA hF happ hP
  obtain ⟨hcalls, hrest, hpre⟩ := hP
  obtain ⟨-, -, -, hnamed, -, -, -, hat⟩ := (Spec.applies_iff hf).mp happ
  obtain ⟨hg, hn⟩ := and_e (Cond.before_iff.mp (show (Jvm.Cond.and given_1 narrow_1).before args s = true from hpre))
  obtain ⟨g0, r0⟩ := and_e hg
  obtain ⟨k0, r1⟩ := and_e r0
  have k1 := r1
  obtain ⟨w0, w1, rfl⟩ : ∃ w0 w1 : Value, args = #[w0, w1] := by
    have hs : args.size = 2 := by simpa [Cond.value, given_1] using g0
    obtain ⟨L⟩ := args
    match L, hs with
    | [w0, w1], _ => exact ⟨w0, w1, rfl⟩
  have hw := fun d (hd : d ∈ tables_1) => atoms_spec (ws := Jvm.Cond.code x code maxLocals ret :: tables_1) hat d (List.mem_cons_of_mem _ hd)
  have hfit : Fit s := fun {y c} hc i hi => by
    obtain ⟨ha, rfl⟩ := Array.getElem?_eq_some_iff.mp hc
    have q := List.all_eq_true.mp ((Array.all_eq_true_iff_forall_mem.mp hF) _ (Array.getElem_mem ha)) i (List.mem_range.mpr hi)
    simpa [Array.getElem?_eq_getElem hi] using q
  obtain ⟨i0, ei0⟩ := is_v k0
  obtain rfl : w0 = (.int i0) := Option.some.inj ei0
  obtain ⟨i1, ei1⟩ := is_v k1
  obtain rfl : w1 = (.int i1) := Option.some.inj ei1
  have m0 := hn
  obtain ⟨s_Evaluator_NULL, v_Evaluator_NULL⟩ := exa_v m0
  have E_Evaluator_NULL := Exa.start v_Evaluator_NULL m0
  have S_Evaluator_NULL := Sta.start v_Evaluator_NULL (Or.inr ⟨(ow32 hw), (ow35 hw)⟩)
  have hrc : rest_1_c.before _ s = true := hrest
  rw [rest_1_c_eq] at hrc
  have hsets := (atoms_of jdkStatics_1 hrc).1
  obtain ⟨qc, v_q⟩ := is_v (Cond.before_iff.mp (hsets _ (List.mem_of_getElem? (i := 1) rfl)))
  have S_cs := Sta.start v_q (Or.inl (hsets _ (List.mem_of_getElem? (i := 0) rfl)))
  have hq : ¬ qc = 0 := fun z => by have u := not_v (Cond.before_iff.mp (hsets _ (List.mem_of_getElem? (i := 2) rfl))); rw [eq_i v_q (Term.int_eval 0) (by rw [z])] at u; cases u
  have v_hi := own_eqV (Term.int_eval 127) rfl (Cond.before_iff.mp (hsets _ (List.mem_of_getElem? (i := 12) rfl)))
  have S_hi := Sta.start v_hi (Or.inl (hsets _ (List.mem_of_getElem? (i := 10) rfl)))
  obtain ⟨ac, v_ca⟩ := arr_v (Cond.before_iff.mp (hsets _ (List.mem_of_getElem? (i := 13) rfl)))
  have S_ca := Sta.start v_ca (Or.inr ⟨(ow57 hw), (hsets _ (List.mem_of_getElem? (i := 11) rfl))⟩)
  obtain ⟨cc, A_ca⟩ := Arr.start v_ca (Cond.before_iff.mp (hsets _ (List.mem_of_getElem? (i := 13) rfl)))
  obtain ⟨lq1, lq2⟩ := own_lenI v_ca A_ca (Cond.before_iff.mp (hsets _ (List.mem_of_getElem? (i := 15) rfl)))
  have B_x := Bxs.start (val := fun j => .int (j - 128)) (fun _ => v_ca) A_ca lq1 lq2 (by decide) (Cond.before_iff.mp (hsets _ (List.mem_of_getElem? (i := 16) rfl))) (fun X j nj q => eqv_i (own_subI (idx_at nj)) q)
  obtain ⟨n, o, h1, h2, h3, _, L, rfl, ⟨rfl, N⟩, hq⟩ := rm0 l s _ hw tables_1 i0 i1 s_Evaluator_NULL qc ac cc _ s.heap s.heap.size (Nat.le_refl _) (Old.start s) S_hi S_ca B_x S_Evaluator_NULL S_cs hq p e ha hc hk s m _ below hf ((Spec.applies_iff_loose hf).mp happ).1 ⟨rfl, State.Warmed39.refl s, rfl⟩ trivial
  refine ⟨n, _, h1, h2, h3, hpost _ _ _ _ _ _ ⟨Cond.after_iff.mpr rfl, Cond.after_iff.mpr (eq_i res_at (Term.int_eval (1)) rfl), trivial⟩ ⟨hq.1, hq.2.1, (hq.2.2.sift fun y hy => Or.inr (N y hy)).mono (by decide) (by decide)⟩⟩
theorem main_1_1 : Claimed_1_1 := comes_1 fun _ _ _ _ _ _ h hF => ⟨h.1, hF⟩
theorem main_1_2 : Claimed_1_2 := comes_1 fun _ _ _ _ _ _ h hF => ⟨h.2.1, hF⟩
end Jvm.Pilot.@@N@@
namespace Jvm.Pilot.@@N@@
open Jvm Jvm.ClassFile Sem Op Lib Jvm.Free Jvm.Stand Jvm.Pilot.@@N@@.Jvm.D
/-! MADE BY PROGRAM (witnessworld.py) out of the Statement's table words and the real class files: 28 classes; the members and pool entries that the words name. The judged class is class 1, her method 1. -/
namespace start1
open Jvm.ClassFile
def u (s : String) : CpInfo := .utf8 (stringToUtf16 s)
/-- a pool by its gaps: so many unusable entries, then the entry; so many at the end -/
def gap : Nat → List CpInfo → List CpInfo
  | 0, r => r
  | n + 1, r => .unusable :: gap n r
def poolList (es : List (Nat × CpInfo)) (last : Nat) : List CpInfo := es.foldr (fun e r => gap e.1 (e.2 :: r)) (gap last [])
def pool (es : List (Nat × CpInfo)) (last : Nat) : Array CpInfo := ⟨poolList es last⟩
def fileOf (pool : Array CpInfo) (this : Nat) (attrs : Array Attribute := #[]) (ms : Array MethodInfo := #[]) (fl : Nat := 33) (sup : Nat := 0) (ifs : Array Nat := #[]) (fds : Array FieldInfo := #[]) : ClassFile where
  minorVersion := 0
  majorVersion := 65
  constantPool := pool
  accessFlags := fl
  thisClass := this
  superClass := sup
  interfaces := ifs
  fields := fds
  methods := ms
  attributes := attrs
def plain (name : String) (sup : Option ClassId) : Class where
  name := name
  kind := .ordinary
  loader := none
  accessFlags := 33
  super := sup
  interfaces := #[]
  cf := none
  fields := #[]
  methods := #[]
  instanceTypes := #[]
  staticTypes := #[]
  resolved := #[]
  callSites := []
  init := .initialized
  statics := none
  mirror := none

def pool0 : Array CpInfo := pool [(5, u "<init>"), (0, u "()V"), (1, .class_ 10), (1, u "java/lang/Object")] 113

def k0c0 : Code := { maxStack := 0, maxLocals := 1, code := object_method_1_code, exceptionTable := #[], attributes := #[] }
def k0m0 : Method := { name := "<init>", desc := "()V", sig := { parameters := [], returnType := none }, accessFlags := 1, code := some k0c0 }
/-- java/lang/Object -/
def k0 : Class := { plain "java/lang/Object" none with
  accessFlags := 33
  interfaces := #[]
  cf := some (fileOf pool0 8 #[] #[{ accessFlags := 1, nameIndex := 5, descriptorIndex := 6, attributes := #[] }] 33 0 #[] #[])
  fields := #[]
  methods := #[k0m0]
  instanceTypes := #[]
  staticTypes := #[]
  resolved := Array.replicate 124 none
  statics := none }

def pool1 : Array CpInfo := pool [(2, .class_ 4), (1, u "java/lang/Object"), (0, u "<init>"), (0, u "()V"), (0, .fieldref 8 9), (0, .class_ 10), (0, .nameAndType 11 12), (0, u "com/example/bowerbird/bowerbird/service/Evaluator"), (0, u "NULL"), (0, u "Ljava/lang/Object;"), (0, .class_ 14), (0, u "java/lang/String"), (0, .methodref 13 16), (0, .nameAndType 5 17), (0, u "([C)V"), (0, .methodref 19 20), (0, .class_ 21), (0, .nameAndType 22 23), (0, u "java/lang/Integer"), (0, u "valueOf"), (0, u "(I)Ljava/lang/Integer;"), (0, .methodref 8 25), (0, .nameAndType 26 27), (0, u "orNull"), (0, u "(Ljava/lang/Object;)Ljava/lang/Object;"), (0, .class_ 29), (0, u "com/example/bowerbird/bowerbird/service/EvaluatorOrNullPinLaw"), (2, u "law"), (0, u "(II)Z")] 3

def k1m0 : Method := { name := "<init>", desc := "()V", sig := { parameters := [], returnType := none }, accessFlags := 2, code := none }
def k1c1 : Code := { maxStack := 4, maxLocals := 6, code := code, exceptionTable := #[], attributes := #[] }
def k1m1 : Method := { name := "law", desc := "(II)Z", sig := { parameters := [.int, .int], returnType := some .boolean }, accessFlags := 9, code := some k1c1 }
/-- com/example/bowerbird/bowerbird/service/EvaluatorOrNullPinLaw -/
def k1 : Class := { plain "com/example/bowerbird/bowerbird/service/EvaluatorOrNullPinLaw" (some 0) with
  accessFlags := 49
  interfaces := #[]
  cf := some (fileOf pool1 28 #[] #[{ accessFlags := 2, nameIndex := 5, descriptorIndex := 6, attributes := #[] }, { accessFlags := 9, nameIndex := 32, descriptorIndex := 33, attributes := #[] }] 49 2 #[] #[])
  fields := #[]
  methods := #[k1m0, k1m1]
  instanceTypes := #[]
  staticTypes := #[]
  resolved := Array.replicate 37 none
  statics := none }

def pool2 : Array CpInfo := pool [(1, .class_ 2), (0, u "java/io/Serializable"), (0, .class_ 4), (0, u "java/lang/Object")] 2

/-- java/io/Serializable -/
def k2 : Class := { plain "java/io/Serializable" (some 0) with
  accessFlags := 1537
  interfaces := #[]
  cf := some (fileOf pool2 1 #[] #[] 1537 3 #[] #[])
  fields := #[]
  methods := #[]
  instanceTypes := #[]
  staticTypes := #[]
  resolved := Array.replicate 7 none
  statics := none }

def pool3 : Array CpInfo := pool [(1, .class_ 2), (0, u "java/lang/Comparable"), (0, .class_ 4), (0, u "java/lang/Object")] 7

/-- java/lang/Comparable -/
def k3 : Class := { plain "java/lang/Comparable" (some 0) with
  accessFlags := 1537
  interfaces := #[]
  cf := some (fileOf pool3 1 #[] #[] 1537 3 #[] #[])
  fields := #[]
  methods := #[]
  instanceTypes := #[]
  staticTypes := #[]
  resolved := Array.replicate 12 none
  statics := none }

def pool4 : Array CpInfo := pool [(2, .class_ 4), (1, u "java/lang/CharSequence"), (42, .class_ 48), (0, u "java/lang/CharSequence$1CodePointIterator"), (10, .class_ 60), (0, u "java/lang/CharSequence$1CharIterator"), (5, .class_ 67), (0, u "java/lang/Object")] 63

/-- java/lang/CharSequence -/
def k4 : Class := { plain "java/lang/CharSequence" (some 0) with
  accessFlags := 1537
  interfaces := #[]
  cf := some (fileOf pool4 2 #[.nestMembers #[47, 59]] #[] 1537 66 #[] #[])
  fields := #[]
  methods := #[]
  instanceTypes := #[]
  staticTypes := #[]
  resolved := Array.replicate 131 none
  statics := none }

def pool5 : Array CpInfo := pool [(1, .class_ 2), (0, u "java/lang/constant/Constable"), (0, .class_ 4), (0, u "java/lang/Object")] 6

/-- java/lang/constant/Constable -/
def k5 : Class := { plain "java/lang/constant/Constable" (some 0) with
  accessFlags := 1537
  interfaces := #[]
  cf := some (fileOf pool5 1 #[] #[] 1537 3 #[] #[])
  fields := #[]
  methods := #[]
  instanceTypes := #[]
  staticTypes := #[]
  resolved := Array.replicate 11 none
  statics := none }

def pool6 : Array CpInfo := pool [(1, .class_ 2), (0, u "java/lang/constant/ConstantDesc"), (0, .class_ 4), (0, u "java/lang/Object")] 32

/-- java/lang/constant/ConstantDesc -/
def k6 : Class := { plain "java/lang/constant/ConstantDesc" (some 0) with
  accessFlags := 1537
  interfaces := #[]
  cf := some (fileOf pool6 1 #[] #[] 1537 3 #[] #[])
  fields := #[]
  methods := #[]
  instanceTypes := #[]
  staticTypes := #[]
  resolved := Array.replicate 37 none
  statics := none }

def pool7 : Array CpInfo := pool [(1, .methodref 2 3), (0, .class_ 4), (0, .nameAndType 5 6), (0, u "java/lang/Object"), (0, u "<init>"), (0, u "()V"), (2, .fieldref 10 11), (0, .class_ 12), (0, .nameAndType 13 14), (0, u "java/lang/String"), (0, u "value"), (0, u "[B"), (0, .fieldref 10 16), (0, .nameAndType 17 18), (0, u "coder"), (0, u "B"), (2, u "hash"), (0, u "I"), (2, u "hashIsZero"), (0, u "Z"), (0, .methodref 10 28), (0, .nameAndType 5 29), (0, u "([CIILjava/lang/Void;)V"), (8, .fieldref 10 39), (0, .nameAndType 40 26), (0, u "COMPACT_STRINGS"), (1, .class_ 44), (1, u "java/lang/StringUTF16"), (0, u "compress"), (1, .methodref 42 48), (0, .nameAndType 49 50), (0, u "coderFromArrayLen"), (0, u "([BI)B"), (126, .methodref 42 178), (0, .nameAndType 45 179), (0, u "([CII)[B"), (395, .class_ 576), (0, u "java/lang/CharSequence"), (22, u "CASE_INSENSITIVE_ORDER"), (0, u "Ljava/util/Comparator;"), (409, u "([C)V"), (90, u "serialPersistentFields"), (0, u "[Ljava/io/ObjectStreamField;"), (0, .class_ 1104), (0, u "java/lang/String$CaseInsensitiveComparator"), (1, .class_ 1107), (0, u "java/io/Serializable"), (0, .class_ 1109), (0, u "java/lang/Comparable"), (0, .class_ 1111), (0, u "java/lang/constant/Constable"), (0, .class_ 1113), (0, u "java/lang/constant/ConstantDesc"), (2, u "serialVersionUID"), (0, u "J"), (3, u "REPL"), (0, u "C"), (2, u "LATIN1"), (1, u "UTF16")] 323

def k7m0 : Method := { name := "<init>", desc := "()V", sig := { parameters := [], returnType := none }, accessFlags := 1, code := none }
def k7c1 : Code := { maxStack := 5, maxLocals := 2, code := jdk_42_method_3_code, exceptionTable := #[], attributes := #[] }
def k7m1 : Method := { name := "<init>", desc := "([C)V", sig := { parameters := [(.array .char)], returnType := none }, accessFlags := 1, code := some k7c1 }
def k7c2 : Code := { maxStack := 4, maxLocals := 6, code := jdk_42_method_149_code, exceptionTable := #[], attributes := #[] }
def k7m2 : Method := { name := "<init>", desc := "([CIILjava/lang/Void;)V", sig := { parameters := [(.array .char), .int, .int, (.object "java/lang/Void")], returnType := none }, accessFlags := 2, code := some k7c2 }
/-- java/lang/String -/
def k7 : Class := { plain "java/lang/String" (some 0) with
  accessFlags := 49
  interfaces := #[2, 3, 4, 5, 6]
  cf := some (fileOf pool7 10 #[.nestMembers #[1103]] #[{ accessFlags := 1, nameIndex := 5, descriptorIndex := 6, attributes := #[] }, { accessFlags := 1, nameIndex := 5, descriptorIndex := 1010, attributes := #[] }, { accessFlags := 2, nameIndex := 5, descriptorIndex := 29, attributes := #[] }] 49 2 #[1106, 1108, 575, 1110, 1112] #[{ accessFlags := 18, nameIndex := 13, descriptorIndex := 14, attributes := #[] }, { accessFlags := 18, nameIndex := 17, descriptorIndex := 18, attributes := #[] }, { accessFlags := 2, nameIndex := 21, descriptorIndex := 22, attributes := #[] }, { accessFlags := 2, nameIndex := 25, descriptorIndex := 26, attributes := #[] }, { accessFlags := 26, nameIndex := 1116, descriptorIndex := 1117, attributes := #[] }, { accessFlags := 24, nameIndex := 40, descriptorIndex := 26, attributes := #[] }, { accessFlags := 26, nameIndex := 1101, descriptorIndex := 1102, attributes := #[] }, { accessFlags := 26, nameIndex := 1121, descriptorIndex := 1122, attributes := #[] }, { accessFlags := 25, nameIndex := 599, descriptorIndex := 600, attributes := #[] }, { accessFlags := 24, nameIndex := 1125, descriptorIndex := 18, attributes := #[] }, { accessFlags := 24, nameIndex := 1127, descriptorIndex := 18, attributes := #[] }])
  fields := #[{ name := "value", type := (.array .byte), accessFlags := 18, slot := 0, constantValue := 0 }, { name := "coder", type := .byte, accessFlags := 18, slot := 1, constantValue := 0 }, { name := "hash", type := .int, accessFlags := 2, slot := 2, constantValue := 0 }, { name := "hashIsZero", type := .boolean, accessFlags := 2, slot := 3, constantValue := 0 }, { name := "serialVersionUID", type := .long, accessFlags := 26, slot := 0, constantValue := 0 }, { name := "COMPACT_STRINGS", type := .boolean, accessFlags := 24, slot := 1, constantValue := 0 }, { name := "serialPersistentFields", type := (.array (.object "java/io/ObjectStreamField")), accessFlags := 26, slot := 2, constantValue := 0 }, { name := "REPL", type := .char, accessFlags := 26, slot := 3, constantValue := 0 }, { name := "CASE_INSENSITIVE_ORDER", type := (.object "java/util/Comparator"), accessFlags := 25, slot := 4, constantValue := 0 }, { name := "LATIN1", type := .byte, accessFlags := 24, slot := 5, constantValue := 0 }, { name := "UTF16", type := .byte, accessFlags := 24, slot := 6, constantValue := 0 }]
  methods := #[k7m0, k7m1, k7m2]
  instanceTypes := #[(.array .byte), .byte, .int, .boolean]
  staticTypes := #[.long, .boolean, (.array (.object "java/io/ObjectStreamField")), .char, (.object "java/util/Comparator"), .byte, .byte]
  resolved := Array.replicate 1451 none
  statics := some 0 }

def pool8 : Array CpInfo := pool [(6, .class_ 8), (1, u "java/lang/Object"), (0, u "<init>"), (0, u "()V"), (1, .class_ 14), (1, u "java/lang/StringUTF16"), (31, u "$assertionsDisabled"), (0, u "Z"), (13, u "HI_BYTE_SHIFT"), (0, u "I"), (2, u "LO_BYTE_SHIFT"), (49, .methodref 12 116), (0, .nameAndType 117 118), (0, u "compress"), (0, u "([CI[BII)I"), (3, u "([CII)[B"), (138, u "coderFromArrayLen"), (0, u "([BI)B"), (106, .class_ 371), (1, u "java/lang/StringUTF16$LinesSpliterator"), (58, u "MAX_LENGTH"), (196, .class_ 628), (0, u "java/lang/StringUTF16$CodePointsSpliterator"), (0, .class_ 630), (0, u "java/lang/StringUTF16$CharsSpliterator")] 4

def k8m0 : Method := { name := "<init>", desc := "()V", sig := { parameters := [], returnType := none }, accessFlags := 0, code := none }
def k8c1 : Code := { maxStack := 2, maxLocals := 2, code := jdk_52_method_15_code, exceptionTable := #[], attributes := #[] }
def k8m1 : Method := { name := "coderFromArrayLen", desc := "([BI)B", sig := { parameters := [(.array .byte), .int], returnType := some .byte }, accessFlags := 8, code := some k8c1 }
def k8c2 : Code := { maxStack := 5, maxLocals := 6, code := jdk_52_method_16_code, exceptionTable := #[], attributes := #[] }
def k8m2 : Method := { name := "compress", desc := "([CII)[B", sig := { parameters := [(.array .char), .int, .int], returnType := some (.array .byte) }, accessFlags := 9, code := some k8c2 }
def k8c3 : Code := { maxStack := 3, maxLocals := 7, code := jdk_52_method_21_code, exceptionTable := #[], attributes := #[] }
def k8m3 : Method := { name := "compress", desc := "([CI[BII)I", sig := { parameters := [(.array .char), .int, (.array .byte), .int, .int], returnType := some .int }, accessFlags := 9, code := some k8c3 }
/-- java/lang/StringUTF16 -/
def k8 : Class := { plain "java/lang/StringUTF16" (some 0) with
  accessFlags := 48
  interfaces := #[]
  cf := some (fileOf pool8 12 #[.nestMembers #[627, 629, 369]] #[{ accessFlags := 0, nameIndex := 9, descriptorIndex := 10, attributes := #[] }, { accessFlags := 8, nameIndex := 261, descriptorIndex := 262, attributes := #[] }, { accessFlags := 9, nameIndex := 117, descriptorIndex := 122, attributes := #[] }, { accessFlags := 9, nameIndex := 117, descriptorIndex := 118, attributes := #[] }] 48 6 #[] #[{ accessFlags := 26, nameIndex := 61, descriptorIndex := 62, attributes := #[] }, { accessFlags := 26, nameIndex := 65, descriptorIndex := 62, attributes := #[] }, { accessFlags := 24, nameIndex := 430, descriptorIndex := 62, attributes := #[] }, { accessFlags := 4120, nameIndex := 46, descriptorIndex := 47, attributes := #[] }])
  fields := #[{ name := "HI_BYTE_SHIFT", type := .int, accessFlags := 26, slot := 0, constantValue := 0 }, { name := "LO_BYTE_SHIFT", type := .int, accessFlags := 26, slot := 1, constantValue := 0 }, { name := "MAX_LENGTH", type := .int, accessFlags := 24, slot := 2, constantValue := 0 }, { name := "$assertionsDisabled", type := .boolean, accessFlags := 4120, slot := 3, constantValue := 0 }]
  methods := #[k8m0, k8m1, k8m2, k8m3]
  instanceTypes := #[]
  staticTypes := #[.int, .int, .int, .boolean]
  resolved := Array.replicate 635 none
  statics := none }

def pool9 : Array CpInfo := pool [(1, .class_ 2), (0, u "com/example/bowerbird/bowerbird/model/Formula$Visitor"), (0, .class_ 4), (0, u "java/lang/Object"), (32, .class_ 38), (0, u "com/example/bowerbird/bowerbird/model/Formula")] 29

/-- com/example/bowerbird/bowerbird/model/Formula$Visitor -/
def k9 : Class := { plain "com/example/bowerbird/bowerbird/model/Formula$Visitor" (some 0) with
  accessFlags := 1537
  interfaces := #[]
  cf := some (fileOf pool9 1 #[.nestHost 37] #[] 1537 3 #[] #[])
  fields := #[]
  methods := #[]
  instanceTypes := #[]
  staticTypes := #[]
  resolved := Array.replicate 68 none
  statics := none }

def pool10 : Array CpInfo := pool [(1, .class_ 2), (0, u "com/example/bowerbird/bowerbird/model/IntExpr$Visitor"), (0, .class_ 4), (0, u "java/lang/Object"), (41, .class_ 47), (0, u "com/example/bowerbird/bowerbird/model/IntExpr")] 38

/-- com/example/bowerbird/bowerbird/model/IntExpr$Visitor -/
def k10 : Class := { plain "com/example/bowerbird/bowerbird/model/IntExpr$Visitor" (some 0) with
  accessFlags := 1537
  interfaces := #[]
  cf := some (fileOf pool10 1 #[.nestHost 46] #[] 1537 3 #[] #[])
  fields := #[]
  methods := #[]
  instanceTypes := #[]
  staticTypes := #[]
  resolved := Array.replicate 86 none
  statics := none }

def pool11 : Array CpInfo := pool [(1, .class_ 2), (0, u "com/example/bowerbird/bowerbird/model/SetExpr$Visitor"), (0, .class_ 4), (0, u "java/lang/Object"), (53, .class_ 59), (0, u "com/example/bowerbird/bowerbird/model/SetExpr")] 50

/-- com/example/bowerbird/bowerbird/model/SetExpr$Visitor -/
def k11 : Class := { plain "com/example/bowerbird/bowerbird/model/SetExpr$Visitor" (some 0) with
  accessFlags := 1537
  interfaces := #[]
  cf := some (fileOf pool11 1 #[.nestHost 58] #[] 1537 3 #[] #[])
  fields := #[]
  methods := #[]
  instanceTypes := #[]
  staticTypes := #[]
  resolved := Array.replicate 110 none
  statics := none }

def pool12 : Array CpInfo := pool [(6, u "Lcom/example/bowerbird/bowerbird/service/State;"), (1, .class_ 10), (1, u "com/example/bowerbird/bowerbird/service/Evaluator"), (0, u "NO_RESULT"), (0, u "Ljava/lang/Object;"), (5, .class_ 20), (1, u "java/lang/Object"), (6, u "values"), (0, u "Ljava/util/Map;"), (2, u "bindings"), (0, u "Lcom/example/bowerbird/bowerbird/model/Bindings;"), (2, u "heap"), (0, u "Lcom/example/bowerbird/bowerbird/model/Heap;"), (2, u "ints"), (0, u "Lcom/example/bowerbird/bowerbird/model/IntRange;"), (2, u "before"), (2, u "result"), (31, .class_ 79), (0, u "com/example/bowerbird/bowerbird/service/Evaluator$WideInt"), (19, .class_ 101), (1, u "com/example/bowerbird/bowerbird/service/Evaluator$Members"), (104, .class_ 208), (1, u "com/example/bowerbird/bowerbird/service/Evaluator$2"), (199, u "(Ljava/lang/Object;)Ljava/lang/Object;"), (2, u "readingBefore"), (0, u "Z"), (0, .fieldref 8 414), (0, .nameAndType 415 12), (0, u "NULL"), (15, u "orNull"), (553, .class_ 986), (0, u "com/example/bowerbird/bowerbird/service/Evaluator$1"), (1, .class_ 989), (0, u "com/example/bowerbird/bowerbird/model/Formula$Visitor"), (0, .class_ 991), (0, u "com/example/bowerbird/bowerbird/model/IntExpr$Visitor"), (0, .class_ 993), (0, u "com/example/bowerbird/bowerbird/model/SetExpr$Visitor"), (0, u "MAX_INTS"), (0, u "J")] 302

def k12c0 : Code := { maxStack := 1, maxLocals := 1, code := prog_82_method_35_code, exceptionTable := #[], attributes := #[] }
def k12m0 : Method := { name := "orNull", desc := "(Ljava/lang/Object;)Ljava/lang/Object;", sig := { parameters := [(.object "java/lang/Object")], returnType := some (.object "java/lang/Object") }, accessFlags := 8, code := some k12c0 }
/-- com/example/bowerbird/bowerbird/service/Evaluator -/
def k12 : Class := { plain "com/example/bowerbird/bowerbird/service/Evaluator" (some 0) with
  accessFlags := 32
  interfaces := #[9, 10, 11]
  cf := some (fileOf pool12 8 #[.nestMembers #[206, 78, 99, 985]] #[{ accessFlags := 8, nameIndex := 431, descriptorIndex := 408, attributes := #[] }] 32 18 #[988, 990, 992] #[{ accessFlags := 24, nameIndex := 994, descriptorIndex := 995, attributes := #[] }, { accessFlags := 24, nameIndex := 415, descriptorIndex := 12, attributes := #[] }, { accessFlags := 26, nameIndex := 11, descriptorIndex := 12, attributes := #[] }, { accessFlags := 18, nameIndex := 31, descriptorIndex := 32, attributes := #[] }, { accessFlags := 18, nameIndex := 35, descriptorIndex := 36, attributes := #[] }, { accessFlags := 18, nameIndex := 39, descriptorIndex := 40, attributes := #[] }, { accessFlags := 18, nameIndex := 43, descriptorIndex := 6, attributes := #[] }, { accessFlags := 18, nameIndex := 46, descriptorIndex := 12, attributes := #[] }, { accessFlags := 18, nameIndex := 27, descriptorIndex := 28, attributes := #[] }, { accessFlags := 2, nameIndex := 411, descriptorIndex := 412, attributes := #[] }])
  fields := #[{ name := "MAX_INTS", type := .long, accessFlags := 24, slot := 0, constantValue := 0 }, { name := "NULL", type := (.object "java/lang/Object"), accessFlags := 24, slot := 1, constantValue := 0 }, { name := "NO_RESULT", type := (.object "java/lang/Object"), accessFlags := 26, slot := 2, constantValue := 0 }, { name := "bindings", type := (.object "com/example/bowerbird/bowerbird/model/Bindings"), accessFlags := 18, slot := 0, constantValue := 0 }, { name := "heap", type := (.object "com/example/bowerbird/bowerbird/model/Heap"), accessFlags := 18, slot := 1, constantValue := 0 }, { name := "ints", type := (.object "com/example/bowerbird/bowerbird/model/IntRange"), accessFlags := 18, slot := 2, constantValue := 0 }, { name := "before", type := (.object "com/example/bowerbird/bowerbird/service/State"), accessFlags := 18, slot := 3, constantValue := 0 }, { name := "result", type := (.object "java/lang/Object"), accessFlags := 18, slot := 4, constantValue := 0 }, { name := "values", type := (.object "java/util/Map"), accessFlags := 18, slot := 5, constantValue := 0 }, { name := "readingBefore", type := .boolean, accessFlags := 2, slot := 6, constantValue := 0 }]
  methods := #[k12m0]
  instanceTypes := #[(.object "com/example/bowerbird/bowerbird/model/Bindings"), (.object "com/example/bowerbird/bowerbird/model/Heap"), (.object "com/example/bowerbird/bowerbird/model/IntRange"), (.object "com/example/bowerbird/bowerbird/service/State"), (.object "java/lang/Object"), (.object "java/util/Map"), .boolean]
  staticTypes := #[.long, (.object "java/lang/Object"), (.object "java/lang/Object")]
  resolved := Array.replicate 1298 none
  statics := some 1 }

def pool13 : Array CpInfo := pool [(1, .methodref 2 3), (0, .class_ 4), (0, .nameAndType 5 6), (0, u "java/lang/Object"), (0, u "<init>"), (0, u "()V"), (1, .class_ 10), (1, u "java/lang/Number"), (2, .class_ 14), (0, u "java/io/Serializable"), (0, u "serialVersionUID"), (0, u "J")] 20

def k13c0 : Code := { maxStack := 1, maxLocals := 1, code := jdk_18_method_1_code, exceptionTable := #[], attributes := #[] }
def k13m0 : Method := { name := "<init>", desc := "()V", sig := { parameters := [], returnType := none }, accessFlags := 1, code := some k13c0 }
/-- java/lang/Number -/
def k13 : Class := { plain "java/lang/Number" (some 0) with
  accessFlags := 1057
  interfaces := #[2]
  cf := some (fileOf pool13 8 #[] #[{ accessFlags := 1, nameIndex := 5, descriptorIndex := 6, attributes := #[] }] 1057 2 #[13] #[{ accessFlags := 26, nameIndex := 15, descriptorIndex := 16, attributes := #[] }])
  fields := #[{ name := "serialVersionUID", type := .long, accessFlags := 26, slot := 0, constantValue := 0 }]
  methods := #[k13m0]
  instanceTypes := #[]
  staticTypes := #[.long]
  resolved := Array.replicate 37 none
  statics := none }

def pool14 : Array CpInfo := pool [(1, .class_ 2), (0, u "java/lang/Integer"), (16, u "digits"), (0, u "[C"), (46, u "<init>"), (17, u "DigitOnes"), (0, u "[B"), (2, u "DigitTens"), (10, .nameAndType 67 101), (0, u "()V"), (85, u "valueOf"), (0, u "(I)Ljava/lang/Integer;"), (0, .class_ 190), (0, u "java/lang/Integer$IntegerCache"), (0, .fieldref 189 192), (0, .nameAndType 193 194), (0, u "high"), (0, u "I"), (0, .fieldref 189 196), (0, .nameAndType 197 198), (0, u "cache"), (0, u "[Ljava/lang/Integer;"), (0, .methodref 1 200), (0, .nameAndType 67 201), (0, u "(I)V"), (0, .methodref 203 100), (0, .class_ 204), (0, u "java/lang/Number"), (0, .fieldref 1 206), (0, .nameAndType 207 194), (0, u "value"), (94, u "TYPE"), (0, u "Ljava/lang/Class;"), (0, .class_ 305), (0, u "java/lang/Comparable"), (0, .class_ 307), (0, u "java/lang/constant/Constable"), (0, .class_ 309), (0, u "java/lang/constant/ConstantDesc"), (0, u "MIN_VALUE"), (1, u "MAX_VALUE"), (3, u "SIZE"), (1, u "BYTES"), (1, u "serialVersionUID"), (0, u "J")] 131

def k14c0 : Code := { maxStack := 3, maxLocals := 1, code := jdk_33_method_22_code, exceptionTable := #[], attributes := #[] }
def k14m0 : Method := { name := "valueOf", desc := "(I)Ljava/lang/Integer;", sig := { parameters := [.int], returnType := some (.object "java/lang/Integer") }, accessFlags := 9, code := some k14c0 }
def k14c1 : Code := { maxStack := 2, maxLocals := 2, code := jdk_33_method_23_code, exceptionTable := #[], attributes := #[] }
def k14m1 : Method := { name := "<init>", desc := "(I)V", sig := { parameters := [.int], returnType := none }, accessFlags := 1, code := some k14c1 }
/-- java/lang/Integer -/
def k14 : Class := { plain "java/lang/Integer" (some 13) with
  accessFlags := 49
  interfaces := #[3, 5, 6]
  cf := some (fileOf pool14 1 #[.nestMembers #[189]] #[{ accessFlags := 9, nameIndex := 187, descriptorIndex := 188, attributes := #[] }, { accessFlags := 1, nameIndex := 67, descriptorIndex := 201, attributes := #[] }] 49 203 #[304, 306, 308] #[{ accessFlags := 25, nameIndex := 310, descriptorIndex := 194, attributes := #[] }, { accessFlags := 25, nameIndex := 312, descriptorIndex := 194, attributes := #[] }, { accessFlags := 25, nameIndex := 302, descriptorIndex := 303, attributes := #[] }, { accessFlags := 24, nameIndex := 19, descriptorIndex := 20, attributes := #[] }, { accessFlags := 24, nameIndex := 89, descriptorIndex := 86, attributes := #[] }, { accessFlags := 24, nameIndex := 85, descriptorIndex := 86, attributes := #[] }, { accessFlags := 18, nameIndex := 207, descriptorIndex := 194, attributes := #[] }, { accessFlags := 25, nameIndex := 316, descriptorIndex := 194, attributes := #[] }, { accessFlags := 25, nameIndex := 318, descriptorIndex := 194, attributes := #[] }, { accessFlags := 26, nameIndex := 320, descriptorIndex := 321, attributes := #[] }])
  fields := #[{ name := "MIN_VALUE", type := .int, accessFlags := 25, slot := 0, constantValue := 0 }, { name := "MAX_VALUE", type := .int, accessFlags := 25, slot := 1, constantValue := 0 }, { name := "TYPE", type := (.object "java/lang/Class"), accessFlags := 25, slot := 2, constantValue := 0 }, { name := "digits", type := (.array .char), accessFlags := 24, slot := 3, constantValue := 0 }, { name := "DigitTens", type := (.array .byte), accessFlags := 24, slot := 4, constantValue := 0 }, { name := "DigitOnes", type := (.array .byte), accessFlags := 24, slot := 5, constantValue := 0 }, { name := "value", type := .int, accessFlags := 18, slot := 0, constantValue := 0 }, { name := "SIZE", type := .int, accessFlags := 25, slot := 6, constantValue := 0 }, { name := "BYTES", type := .int, accessFlags := 25, slot := 7, constantValue := 0 }, { name := "serialVersionUID", type := .long, accessFlags := 26, slot := 8, constantValue := 0 }]
  methods := #[k14m0, k14m1]
  instanceTypes := #[.int]
  staticTypes := #[.int, .int, (.object "java/lang/Class"), (.array .char), (.array .byte), (.array .byte), .int, .int, .long]
  resolved := Array.replicate 453 none
  statics := none }

def pool15 : Array CpInfo := pool [(2, .class_ 4), (1, u "java/lang/Object"), (0, u "<init>"), (0, u "()V"), (0, .class_ 8), (0, u "java/lang/Integer"), (7, .class_ 18), (1, u "java/lang/Integer$IntegerCache"), (0, u "$assertionsDisabled"), (0, u "Z"), (26, u "high"), (0, u "I"), (8, u "archivedCache"), (0, u "[Ljava/lang/Integer;"), (12, u "cache"), (0, u "low")] 27

def k15m0 : Method := { name := "<init>", desc := "()V", sig := { parameters := [], returnType := none }, accessFlags := 2, code := none }
/-- java/lang/Integer$IntegerCache -/
def k15 : Class := { plain "java/lang/Integer$IntegerCache" (some 0) with
  accessFlags := 48
  interfaces := #[]
  cf := some (fileOf pool15 16 #[.nestHost 7] #[{ accessFlags := 2, nameIndex := 5, descriptorIndex := 6, attributes := #[] }] 48 2 #[] #[{ accessFlags := 24, nameIndex := 72, descriptorIndex := 48, attributes := #[] }, { accessFlags := 24, nameIndex := 47, descriptorIndex := 48, attributes := #[] }, { accessFlags := 24, nameIndex := 71, descriptorIndex := 58, attributes := #[] }, { accessFlags := 8, nameIndex := 57, descriptorIndex := 58, attributes := #[] }, { accessFlags := 4120, nameIndex := 19, descriptorIndex := 20, attributes := #[] }])
  fields := #[{ name := "low", type := .int, accessFlags := 24, slot := 0, constantValue := 0 }, { name := "high", type := .int, accessFlags := 24, slot := 1, constantValue := 0 }, { name := "cache", type := (.array (.object "java/lang/Integer")), accessFlags := 24, slot := 2, constantValue := 0 }, { name := "archivedCache", type := (.array (.object "java/lang/Integer")), accessFlags := 8, slot := 3, constantValue := 0 }, { name := "$assertionsDisabled", type := .boolean, accessFlags := 4120, slot := 4, constantValue := 0 }]
  methods := #[k15m0]
  instanceTypes := #[]
  staticTypes := #[.int, .int, (.array (.object "java/lang/Integer")), (.array (.object "java/lang/Integer")), .boolean]
  resolved := Array.replicate 100 none
  statics := some 2 }

def pool16 : Array CpInfo := pool [(4, .class_ 6), (1, u "java/lang/Object"), (0, u "<init>"), (0, u "()V"), (5, .class_ 16), (1, u "java/lang/StringLatin1"), (104, u "$assertionsDisabled"), (0, u "Z"), (98, .class_ 223), (1, u "java/lang/StringLatin1$LinesSpliterator"), (166, .class_ 391), (0, u "java/lang/StringLatin1$CharsSpliterator")] 3

def k16m0 : Method := { name := "<init>", desc := "()V", sig := { parameters := [], returnType := none }, accessFlags := 0, code := none }
/-- java/lang/StringLatin1 -/
def k16 : Class := { plain "java/lang/StringLatin1" (some 0) with
  accessFlags := 48
  interfaces := #[]
  cf := some (fileOf pool16 14 #[.nestMembers #[390, 221]] #[{ accessFlags := 0, nameIndex := 7, descriptorIndex := 8, attributes := #[] }] 48 4 #[] #[{ accessFlags := 4120, nameIndex := 121, descriptorIndex := 122, attributes := #[] }])
  fields := #[{ name := "$assertionsDisabled", type := .boolean, accessFlags := 4120, slot := 0, constantValue := 0 }]
  methods := #[k16m0]
  instanceTypes := #[]
  staticTypes := #[.boolean]
  resolved := Array.replicate 395 none
  statics := none }

def pool17 : Array CpInfo := pool [(2, .class_ 4), (1, u "java/lang/Object"), (0, u "<init>"), (0, u "()V"), (17, .class_ 26), (1, u "jdk/internal/util/Preconditions"), (28, .class_ 56), (0, u "jdk/internal/util/Preconditions$4"), (57, .class_ 115), (0, u "jdk/internal/util/Preconditions$1"), (7, u "SIOOBE_FORMATTER"), (0, u "Ljava/util/function/BiFunction;"), (0, .class_ 126), (0, u "jdk/internal/util/Preconditions$2"), (3, u "AIOOBE_FORMATTER"), (0, .class_ 132), (0, u "jdk/internal/util/Preconditions$3"), (3, u "IOOBE_FORMATTER")] 57

def k17m0 : Method := { name := "<init>", desc := "()V", sig := { parameters := [], returnType := none }, accessFlags := 1, code := none }
/-- jdk/internal/util/Preconditions -/
def k17 : Class := { plain "jdk/internal/util/Preconditions" (some 0) with
  accessFlags := 33
  interfaces := #[]
  cf := some (fileOf pool17 24 #[.nestMembers #[55, 131, 125, 114]] #[{ accessFlags := 1, nameIndex := 5, descriptorIndex := 6, attributes := #[] }] 33 2 #[] #[{ accessFlags := 25, nameIndex := 123, descriptorIndex := 124, attributes := #[] }, { accessFlags := 25, nameIndex := 130, descriptorIndex := 124, attributes := #[] }, { accessFlags := 25, nameIndex := 136, descriptorIndex := 124, attributes := #[] }])
  fields := #[{ name := "SIOOBE_FORMATTER", type := (.object "java/util/function/BiFunction"), accessFlags := 25, slot := 0, constantValue := 0 }, { name := "AIOOBE_FORMATTER", type := (.object "java/util/function/BiFunction"), accessFlags := 25, slot := 1, constantValue := 0 }, { name := "IOOBE_FORMATTER", type := (.object "java/util/function/BiFunction"), accessFlags := 25, slot := 2, constantValue := 0 }]
  methods := #[k17m0]
  instanceTypes := #[]
  staticTypes := #[(.object "java/util/function/BiFunction"), (.object "java/util/function/BiFunction"), (.object "java/util/function/BiFunction")]
  resolved := Array.replicate 194 none
  statics := some 3 }

def pool18 : Array CpInfo := pool [(9, u "<init>"), (6, .class_ 18), (1, u "java/lang/Object"), (0, u "()V"), (1, .class_ 23), (1, u "jdk/internal/util/ArraysSupport"), (0, u "LOG2_ARRAY_LONG_INDEX_SCALE"), (0, u "I"), (2, u "U"), (0, u "Ljdk/internal/misc/Unsafe;"), (8, u "BIG_ENDIAN"), (0, u "Z"), (8, u "LOG2_BYTE_BIT_SIZE"), (4, u "LOG2_ARRAY_INT_INDEX_SCALE"), (54, u "JLA"), (0, u "Ljdk/internal/access/JavaLangAccess;"), (11, u "LOG2_ARRAY_BOOLEAN_INDEX_SCALE"), (9, u "LOG2_ARRAY_BYTE_INDEX_SCALE"), (5, u "LOG2_ARRAY_CHAR_INDEX_SCALE"), (5, u "LOG2_ARRAY_SHORT_INDEX_SCALE"), (18, u "LOG2_ARRAY_FLOAT_INDEX_SCALE"), (24, u "LOG2_ARRAY_DOUBLE_INDEX_SCALE"), (89, u "T_BOOLEAN"), (2, u "T_CHAR"), (1, u "T_FLOAT"), (1, u "T_DOUBLE"), (1, u "T_BYTE"), (1, u "T_SHORT"), (1, u "T_INT"), (1, u "T_LONG"), (1, u "SOFT_MAX_ARRAY_LENGTH")] 83

def k18m0 : Method := { name := "<init>", desc := "()V", sig := { parameters := [], returnType := none }, accessFlags := 2, code := none }
/-- jdk/internal/util/ArraysSupport -/
def k18 : Class := { plain "jdk/internal/util/ArraysSupport" (some 0) with
  accessFlags := 33
  interfaces := #[]
  cf := some (fileOf pool18 21 #[] #[{ accessFlags := 2, nameIndex := 9, descriptorIndex := 19, attributes := #[] }] 33 16 #[] #[{ accessFlags := 24, nameIndex := 28, descriptorIndex := 29, attributes := #[] }, { accessFlags := 26, nameIndex := 38, descriptorIndex := 39, attributes := #[] }, { accessFlags := 25, nameIndex := 121, descriptorIndex := 25, attributes := #[] }, { accessFlags := 25, nameIndex := 131, descriptorIndex := 25, attributes := #[] }, { accessFlags := 25, nameIndex := 137, descriptorIndex := 25, attributes := #[] }, { accessFlags := 25, nameIndex := 143, descriptorIndex := 25, attributes := #[] }, { accessFlags := 25, nameIndex := 53, descriptorIndex := 25, attributes := #[] }, { accessFlags := 25, nameIndex := 24, descriptorIndex := 25, attributes := #[] }, { accessFlags := 25, nameIndex := 162, descriptorIndex := 25, attributes := #[] }, { accessFlags := 25, nameIndex := 187, descriptorIndex := 25, attributes := #[] }, { accessFlags := 26, nameIndex := 48, descriptorIndex := 25, attributes := #[] }, { accessFlags := 25, nameIndex := 277, descriptorIndex := 25, attributes := #[] }, { accessFlags := 25, nameIndex := 280, descriptorIndex := 25, attributes := #[] }, { accessFlags := 25, nameIndex := 282, descriptorIndex := 25, attributes := #[] }, { accessFlags := 25, nameIndex := 284, descriptorIndex := 25, attributes := #[] }, { accessFlags := 25, nameIndex := 286, descriptorIndex := 25, attributes := #[] }, { accessFlags := 25, nameIndex := 288, descriptorIndex := 25, attributes := #[] }, { accessFlags := 25, nameIndex := 290, descriptorIndex := 25, attributes := #[] }, { accessFlags := 25, nameIndex := 292, descriptorIndex := 25, attributes := #[] }, { accessFlags := 26, nameIndex := 108, descriptorIndex := 109, attributes := #[] }, { accessFlags := 25, nameIndex := 294, descriptorIndex := 25, attributes := #[] }])
  fields := #[{ name := "U", type := (.object "jdk/internal/misc/Unsafe"), accessFlags := 24, slot := 0, constantValue := 0 }, { name := "BIG_ENDIAN", type := .boolean, accessFlags := 26, slot := 1, constantValue := 0 }, { name := "LOG2_ARRAY_BOOLEAN_INDEX_SCALE", type := .int, accessFlags := 25, slot := 2, constantValue := 0 }, { name := "LOG2_ARRAY_BYTE_INDEX_SCALE", type := .int, accessFlags := 25, slot := 3, constantValue := 0 }, { name := "LOG2_ARRAY_CHAR_INDEX_SCALE", type := .int, accessFlags := 25, slot := 4, constantValue := 0 }, { name := "LOG2_ARRAY_SHORT_INDEX_SCALE", type := .int, accessFlags := 25, slot := 5, constantValue := 0 }, { name := "LOG2_ARRAY_INT_INDEX_SCALE", type := .int, accessFlags := 25, slot := 6, constantValue := 0 }, { name := "LOG2_ARRAY_LONG_INDEX_SCALE", type := .int, accessFlags := 25, slot := 7, constantValue := 0 }, { name := "LOG2_ARRAY_FLOAT_INDEX_SCALE", type := .int, accessFlags := 25, slot := 8, constantValue := 0 }, { name := "LOG2_ARRAY_DOUBLE_INDEX_SCALE", type := .int, accessFlags := 25, slot := 9, constantValue := 0 }, { name := "LOG2_BYTE_BIT_SIZE", type := .int, accessFlags := 26, slot := 10, constantValue := 0 }, { name := "T_BOOLEAN", type := .int, accessFlags := 25, slot := 11, constantValue := 0 }, { name := "T_CHAR", type := .int, accessFlags := 25, slot := 12, constantValue := 0 }, { name := "T_FLOAT", type := .int, accessFlags := 25, slot := 13, constantValue := 0 }, { name := "T_DOUBLE", type := .int, accessFlags := 25, slot := 14, constantValue := 0 }, { name := "T_BYTE", type := .int, accessFlags := 25, slot := 15, constantValue := 0 }, { name := "T_SHORT", type := .int, accessFlags := 25, slot := 16, constantValue := 0 }, { name := "T_INT", type := .int, accessFlags := 25, slot := 17, constantValue := 0 }, { name := "T_LONG", type := .int, accessFlags := 25, slot := 18, constantValue := 0 }, { name := "JLA", type := (.object "jdk/internal/access/JavaLangAccess"), accessFlags := 26, slot := 19, constantValue := 0 }, { name := "SOFT_MAX_ARRAY_LENGTH", type := .int, accessFlags := 25, slot := 20, constantValue := 0 }]
  methods := #[k18m0]
  instanceTypes := #[]
  staticTypes := #[(.object "jdk/internal/misc/Unsafe"), .boolean, .int, .int, .int, .int, .int, .int, .int, .int, .int, .int, .int, .int, .int, .int, .int, .int, .int, (.object "jdk/internal/access/JavaLangAccess"), .int]
  resolved := Array.replicate 378 none
  statics := none }

def pool19 : Array CpInfo := pool [(2, .class_ 4), (1, u "java/lang/Object"), (0, u "<init>"), (0, u "()V"), (2, .class_ 10), (0, u "com/example/bowerbird/bowerbird/service/Evaluator$1"), (7, .class_ 19), (0, u "com/example/bowerbird/bowerbird/service/Evaluator")] 2

def k19m0 : Method := { name := "<init>", desc := "()V", sig := { parameters := [], returnType := none }, accessFlags := 0, code := none }
/-- com/example/bowerbird/bowerbird/service/Evaluator$1 -/
def k19 : Class := { plain "com/example/bowerbird/bowerbird/service/Evaluator$1" (some 0) with
  accessFlags := 32
  interfaces := #[]
  cf := some (fileOf pool19 9 #[.nestHost 18] #[{ accessFlags := 0, nameIndex := 5, descriptorIndex := 6, attributes := #[] }] 32 2 #[] #[])
  fields := #[]
  methods := #[k19m0]
  instanceTypes := #[]
  staticTypes := #[]
  resolved := Array.replicate 22 none
  statics := none }

def pool20 : Array CpInfo := pool [(1, u "java/lang/Cloneable"), (0, .class_ 1), (0, u "java/lang/Object"), (0, .class_ 3)] 3

/-- java/lang/Cloneable -/
def k20 : Class := { plain "java/lang/Cloneable" (some 0) with
  accessFlags := 1537
  interfaces := #[]
  cf := some (fileOf pool20 2 #[] #[] 1537 4 #[] #[])
  fields := #[]
  methods := #[]
  instanceTypes := #[]
  staticTypes := #[]
  resolved := Array.replicate 8 none
  statics := none }

/-- the primitive byte -/
def k21 : Class := { plain "byte" none with kind := .primitive 'B', accessFlags := 0x411 }
/-- [B -/
def k22 : Class := { plain "[B" (some 0) with kind := .array 21 .byte, interfaces := #[20, 2], accessFlags := 1041 }

/-- the primitive char -/
def k23 : Class := { plain "char" none with kind := .primitive 'C', accessFlags := 0x411 }
/-- [C -/
def k24 : Class := { plain "[C" (some 0) with kind := .array 23 .char, interfaces := #[20, 2], accessFlags := 1041 }

/-- the primitive int -/
def k25 : Class := { plain "int" none with kind := .primitive 'I', accessFlags := 0x411 }
/-- [I -/
def k26 : Class := { plain "[I" (some 0) with kind := .array 25 .int, interfaces := #[20, 2], accessFlags := 1041 }

/-- [Ljava/lang/Integer; -/
def k27 : Class := { plain "[Ljava/lang/Integer;" (some 0) with kind := .array 14 (.object "java/lang/Integer"), interfaces := #[20, 2], accessFlags := 1041 }

def heap : Heap := #[{ cls := 7, slots := #[.long 0, .int 1, .null, .int 0, .null, .int 0, .int 0], vm := .statics 7 },
  { cls := 12, slots := #[.long 0, .ref 261, .null], vm := .statics 12 },
  { cls := 15, slots := #[.int 0, .int 127, .ref 4, .null, .int 0], vm := .statics 15 },
  { cls := 17, slots := #[.null, .null, .null], vm := .statics 17 },
  { cls := 27, slots := #[.ref 5, .ref 6, .ref 7, .ref 8, .ref 9, .ref 10, .ref 11, .ref 12, .ref 13, .ref 14, .ref 15, .ref 16, .ref 17, .ref 18, .ref 19, .ref 20, .ref 21, .ref 22, .ref 23, .ref 24, .ref 25, .ref 26, .ref 27, .ref 28, .ref 29, .ref 30, .ref 31, .ref 32, .ref 33, .ref 34, .ref 35, .ref 36, .ref 37, .ref 38, .ref 39, .ref 40, .ref 41, .ref 42, .ref 43, .ref 44, .ref 45, .ref 46, .ref 47, .ref 48, .ref 49, .ref 50, .ref 51, .ref 52, .ref 53, .ref 54, .ref 55, .ref 56, .ref 57, .ref 58, .ref 59, .ref 60, .ref 61, .ref 62, .ref 63, .ref 64, .ref 65, .ref 66, .ref 67, .ref 68, .ref 69, .ref 70, .ref 71, .ref 72, .ref 73, .ref 74, .ref 75, .ref 76, .ref 77, .ref 78, .ref 79, .ref 80, .ref 81, .ref 82, .ref 83, .ref 84, .ref 85, .ref 86, .ref 87, .ref 88, .ref 89, .ref 90, .ref 91, .ref 92, .ref 93, .ref 94, .ref 95, .ref 96, .ref 97, .ref 98, .ref 99, .ref 100, .ref 101, .ref 102, .ref 103, .ref 104, .ref 105, .ref 106, .ref 107, .ref 108, .ref 109, .ref 110, .ref 111, .ref 112, .ref 113, .ref 114, .ref 115, .ref 116, .ref 117, .ref 118, .ref 119, .ref 120, .ref 121, .ref 122, .ref 123, .ref 124, .ref 125, .ref 126, .ref 127, .ref 128, .ref 129, .ref 130, .ref 131, .ref 132, .ref 133, .ref 134, .ref 135, .ref 136, .ref 137, .ref 138, .ref 139, .ref 140, .ref 141, .ref 142, .ref 143, .ref 144, .ref 145, .ref 146, .ref 147, .ref 148, .ref 149, .ref 150, .ref 151, .ref 152, .ref 153, .ref 154, .ref 155, .ref 156, .ref 157, .ref 158, .ref 159, .ref 160, .ref 161, .ref 162, .ref 163, .ref 164, .ref 165, .ref 166, .ref 167, .ref 168, .ref 169, .ref 170, .ref 171, .ref 172, .ref 173, .ref 174, .ref 175, .ref 176, .ref 177, .ref 178, .ref 179, .ref 180, .ref 181, .ref 182, .ref 183, .ref 184, .ref 185, .ref 186, .ref 187, .ref 188, .ref 189, .ref 190, .ref 191, .ref 192, .ref 193, .ref 194, .ref 195, .ref 196, .ref 197, .ref 198, .ref 199, .ref 200, .ref 201, .ref 202, .ref 203, .ref 204, .ref 205, .ref 206, .ref 207, .ref 208, .ref 209, .ref 210, .ref 211, .ref 212, .ref 213, .ref 214, .ref 215, .ref 216, .ref 217, .ref 218, .ref 219, .ref 220, .ref 221, .ref 222, .ref 223, .ref 224, .ref 225, .ref 226, .ref 227, .ref 228, .ref 229, .ref 230, .ref 231, .ref 232, .ref 233, .ref 234, .ref 235, .ref 236, .ref 237, .ref 238, .ref 239, .ref 240, .ref 241, .ref 242, .ref 243, .ref 244, .ref 245, .ref 246, .ref 247, .ref 248, .ref 249, .ref 250, .ref 251, .ref 252, .ref 253, .ref 254, .ref 255, .ref 256, .ref 257, .ref 258, .ref 259, .ref 260], vm := .none },
  { cls := 14, slots := #[.int (-128)], vm := .none },
  { cls := 14, slots := #[.int (-127)], vm := .none },
  { cls := 14, slots := #[.int (-126)], vm := .none },
  { cls := 14, slots := #[.int (-125)], vm := .none },
  { cls := 14, slots := #[.int (-124)], vm := .none },
  { cls := 14, slots := #[.int (-123)], vm := .none },
  { cls := 14, slots := #[.int (-122)], vm := .none },
  { cls := 14, slots := #[.int (-121)], vm := .none },
  { cls := 14, slots := #[.int (-120)], vm := .none },
  { cls := 14, slots := #[.int (-119)], vm := .none },
  { cls := 14, slots := #[.int (-118)], vm := .none },
  { cls := 14, slots := #[.int (-117)], vm := .none },
  { cls := 14, slots := #[.int (-116)], vm := .none },
  { cls := 14, slots := #[.int (-115)], vm := .none },
  { cls := 14, slots := #[.int (-114)], vm := .none },
  { cls := 14, slots := #[.int (-113)], vm := .none },
  { cls := 14, slots := #[.int (-112)], vm := .none },
  { cls := 14, slots := #[.int (-111)], vm := .none },
  { cls := 14, slots := #[.int (-110)], vm := .none },
  { cls := 14, slots := #[.int (-109)], vm := .none },
  { cls := 14, slots := #[.int (-108)], vm := .none },
  { cls := 14, slots := #[.int (-107)], vm := .none },
  { cls := 14, slots := #[.int (-106)], vm := .none },
  { cls := 14, slots := #[.int (-105)], vm := .none },
  { cls := 14, slots := #[.int (-104)], vm := .none },
  { cls := 14, slots := #[.int (-103)], vm := .none },
  { cls := 14, slots := #[.int (-102)], vm := .none },
  { cls := 14, slots := #[.int (-101)], vm := .none },
  { cls := 14, slots := #[.int (-100)], vm := .none },
  { cls := 14, slots := #[.int (-99)], vm := .none },
  { cls := 14, slots := #[.int (-98)], vm := .none },
  { cls := 14, slots := #[.int (-97)], vm := .none },
  { cls := 14, slots := #[.int (-96)], vm := .none },
  { cls := 14, slots := #[.int (-95)], vm := .none },
  { cls := 14, slots := #[.int (-94)], vm := .none },
  { cls := 14, slots := #[.int (-93)], vm := .none },
  { cls := 14, slots := #[.int (-92)], vm := .none },
  { cls := 14, slots := #[.int (-91)], vm := .none },
  { cls := 14, slots := #[.int (-90)], vm := .none },
  { cls := 14, slots := #[.int (-89)], vm := .none },
  { cls := 14, slots := #[.int (-88)], vm := .none },
  { cls := 14, slots := #[.int (-87)], vm := .none },
  { cls := 14, slots := #[.int (-86)], vm := .none },
  { cls := 14, slots := #[.int (-85)], vm := .none },
  { cls := 14, slots := #[.int (-84)], vm := .none },
  { cls := 14, slots := #[.int (-83)], vm := .none },
  { cls := 14, slots := #[.int (-82)], vm := .none },
  { cls := 14, slots := #[.int (-81)], vm := .none },
  { cls := 14, slots := #[.int (-80)], vm := .none },
  { cls := 14, slots := #[.int (-79)], vm := .none },
  { cls := 14, slots := #[.int (-78)], vm := .none },
  { cls := 14, slots := #[.int (-77)], vm := .none },
  { cls := 14, slots := #[.int (-76)], vm := .none },
  { cls := 14, slots := #[.int (-75)], vm := .none },
  { cls := 14, slots := #[.int (-74)], vm := .none },
  { cls := 14, slots := #[.int (-73)], vm := .none },
  { cls := 14, slots := #[.int (-72)], vm := .none },
  { cls := 14, slots := #[.int (-71)], vm := .none },
  { cls := 14, slots := #[.int (-70)], vm := .none },
  { cls := 14, slots := #[.int (-69)], vm := .none },
  { cls := 14, slots := #[.int (-68)], vm := .none },
  { cls := 14, slots := #[.int (-67)], vm := .none },
  { cls := 14, slots := #[.int (-66)], vm := .none },
  { cls := 14, slots := #[.int (-65)], vm := .none },
  { cls := 14, slots := #[.int (-64)], vm := .none },
  { cls := 14, slots := #[.int (-63)], vm := .none },
  { cls := 14, slots := #[.int (-62)], vm := .none },
  { cls := 14, slots := #[.int (-61)], vm := .none },
  { cls := 14, slots := #[.int (-60)], vm := .none },
  { cls := 14, slots := #[.int (-59)], vm := .none },
  { cls := 14, slots := #[.int (-58)], vm := .none },
  { cls := 14, slots := #[.int (-57)], vm := .none },
  { cls := 14, slots := #[.int (-56)], vm := .none },
  { cls := 14, slots := #[.int (-55)], vm := .none },
  { cls := 14, slots := #[.int (-54)], vm := .none },
  { cls := 14, slots := #[.int (-53)], vm := .none },
  { cls := 14, slots := #[.int (-52)], vm := .none },
  { cls := 14, slots := #[.int (-51)], vm := .none },
  { cls := 14, slots := #[.int (-50)], vm := .none },
  { cls := 14, slots := #[.int (-49)], vm := .none },
  { cls := 14, slots := #[.int (-48)], vm := .none },
  { cls := 14, slots := #[.int (-47)], vm := .none },
  { cls := 14, slots := #[.int (-46)], vm := .none },
  { cls := 14, slots := #[.int (-45)], vm := .none },
  { cls := 14, slots := #[.int (-44)], vm := .none },
  { cls := 14, slots := #[.int (-43)], vm := .none },
  { cls := 14, slots := #[.int (-42)], vm := .none },
  { cls := 14, slots := #[.int (-41)], vm := .none },
  { cls := 14, slots := #[.int (-40)], vm := .none },
  { cls := 14, slots := #[.int (-39)], vm := .none },
  { cls := 14, slots := #[.int (-38)], vm := .none },
  { cls := 14, slots := #[.int (-37)], vm := .none },
  { cls := 14, slots := #[.int (-36)], vm := .none },
  { cls := 14, slots := #[.int (-35)], vm := .none },
  { cls := 14, slots := #[.int (-34)], vm := .none },
  { cls := 14, slots := #[.int (-33)], vm := .none },
  { cls := 14, slots := #[.int (-32)], vm := .none },
  { cls := 14, slots := #[.int (-31)], vm := .none },
  { cls := 14, slots := #[.int (-30)], vm := .none },
  { cls := 14, slots := #[.int (-29)], vm := .none },
  { cls := 14, slots := #[.int (-28)], vm := .none },
  { cls := 14, slots := #[.int (-27)], vm := .none },
  { cls := 14, slots := #[.int (-26)], vm := .none },
  { cls := 14, slots := #[.int (-25)], vm := .none },
  { cls := 14, slots := #[.int (-24)], vm := .none },
  { cls := 14, slots := #[.int (-23)], vm := .none },
  { cls := 14, slots := #[.int (-22)], vm := .none },
  { cls := 14, slots := #[.int (-21)], vm := .none },
  { cls := 14, slots := #[.int (-20)], vm := .none },
  { cls := 14, slots := #[.int (-19)], vm := .none },
  { cls := 14, slots := #[.int (-18)], vm := .none },
  { cls := 14, slots := #[.int (-17)], vm := .none },
  { cls := 14, slots := #[.int (-16)], vm := .none },
  { cls := 14, slots := #[.int (-15)], vm := .none },
  { cls := 14, slots := #[.int (-14)], vm := .none },
  { cls := 14, slots := #[.int (-13)], vm := .none },
  { cls := 14, slots := #[.int (-12)], vm := .none },
  { cls := 14, slots := #[.int (-11)], vm := .none },
  { cls := 14, slots := #[.int (-10)], vm := .none },
  { cls := 14, slots := #[.int (-9)], vm := .none },
  { cls := 14, slots := #[.int (-8)], vm := .none },
  { cls := 14, slots := #[.int (-7)], vm := .none },
  { cls := 14, slots := #[.int (-6)], vm := .none },
  { cls := 14, slots := #[.int (-5)], vm := .none },
  { cls := 14, slots := #[.int (-4)], vm := .none },
  { cls := 14, slots := #[.int (-3)], vm := .none },
  { cls := 14, slots := #[.int (-2)], vm := .none },
  { cls := 14, slots := #[.int (-1)], vm := .none },
  { cls := 14, slots := #[.int 0], vm := .none },
  { cls := 14, slots := #[.int 1], vm := .none },
  { cls := 14, slots := #[.int 2], vm := .none },
  { cls := 14, slots := #[.int 3], vm := .none },
  { cls := 14, slots := #[.int 4], vm := .none },
  { cls := 14, slots := #[.int 5], vm := .none },
  { cls := 14, slots := #[.int 6], vm := .none },
  { cls := 14, slots := #[.int 7], vm := .none },
  { cls := 14, slots := #[.int 8], vm := .none },
  { cls := 14, slots := #[.int 9], vm := .none },
  { cls := 14, slots := #[.int 10], vm := .none },
  { cls := 14, slots := #[.int 11], vm := .none },
  { cls := 14, slots := #[.int 12], vm := .none },
  { cls := 14, slots := #[.int 13], vm := .none },
  { cls := 14, slots := #[.int 14], vm := .none },
  { cls := 14, slots := #[.int 15], vm := .none },
  { cls := 14, slots := #[.int 16], vm := .none },
  { cls := 14, slots := #[.int 17], vm := .none },
  { cls := 14, slots := #[.int 18], vm := .none },
  { cls := 14, slots := #[.int 19], vm := .none },
  { cls := 14, slots := #[.int 20], vm := .none },
  { cls := 14, slots := #[.int 21], vm := .none },
  { cls := 14, slots := #[.int 22], vm := .none },
  { cls := 14, slots := #[.int 23], vm := .none },
  { cls := 14, slots := #[.int 24], vm := .none },
  { cls := 14, slots := #[.int 25], vm := .none },
  { cls := 14, slots := #[.int 26], vm := .none },
  { cls := 14, slots := #[.int 27], vm := .none },
  { cls := 14, slots := #[.int 28], vm := .none },
  { cls := 14, slots := #[.int 29], vm := .none },
  { cls := 14, slots := #[.int 30], vm := .none },
  { cls := 14, slots := #[.int 31], vm := .none },
  { cls := 14, slots := #[.int 32], vm := .none },
  { cls := 14, slots := #[.int 33], vm := .none },
  { cls := 14, slots := #[.int 34], vm := .none },
  { cls := 14, slots := #[.int 35], vm := .none },
  { cls := 14, slots := #[.int 36], vm := .none },
  { cls := 14, slots := #[.int 37], vm := .none },
  { cls := 14, slots := #[.int 38], vm := .none },
  { cls := 14, slots := #[.int 39], vm := .none },
  { cls := 14, slots := #[.int 40], vm := .none },
  { cls := 14, slots := #[.int 41], vm := .none },
  { cls := 14, slots := #[.int 42], vm := .none },
  { cls := 14, slots := #[.int 43], vm := .none },
  { cls := 14, slots := #[.int 44], vm := .none },
  { cls := 14, slots := #[.int 45], vm := .none },
  { cls := 14, slots := #[.int 46], vm := .none },
  { cls := 14, slots := #[.int 47], vm := .none },
  { cls := 14, slots := #[.int 48], vm := .none },
  { cls := 14, slots := #[.int 49], vm := .none },
  { cls := 14, slots := #[.int 50], vm := .none },
  { cls := 14, slots := #[.int 51], vm := .none },
  { cls := 14, slots := #[.int 52], vm := .none },
  { cls := 14, slots := #[.int 53], vm := .none },
  { cls := 14, slots := #[.int 54], vm := .none },
  { cls := 14, slots := #[.int 55], vm := .none },
  { cls := 14, slots := #[.int 56], vm := .none },
  { cls := 14, slots := #[.int 57], vm := .none },
  { cls := 14, slots := #[.int 58], vm := .none },
  { cls := 14, slots := #[.int 59], vm := .none },
  { cls := 14, slots := #[.int 60], vm := .none },
  { cls := 14, slots := #[.int 61], vm := .none },
  { cls := 14, slots := #[.int 62], vm := .none },
  { cls := 14, slots := #[.int 63], vm := .none },
  { cls := 14, slots := #[.int 64], vm := .none },
  { cls := 14, slots := #[.int 65], vm := .none },
  { cls := 14, slots := #[.int 66], vm := .none },
  { cls := 14, slots := #[.int 67], vm := .none },
  { cls := 14, slots := #[.int 68], vm := .none },
  { cls := 14, slots := #[.int 69], vm := .none },
  { cls := 14, slots := #[.int 70], vm := .none },
  { cls := 14, slots := #[.int 71], vm := .none },
  { cls := 14, slots := #[.int 72], vm := .none },
  { cls := 14, slots := #[.int 73], vm := .none },
  { cls := 14, slots := #[.int 74], vm := .none },
  { cls := 14, slots := #[.int 75], vm := .none },
  { cls := 14, slots := #[.int 76], vm := .none },
  { cls := 14, slots := #[.int 77], vm := .none },
  { cls := 14, slots := #[.int 78], vm := .none },
  { cls := 14, slots := #[.int 79], vm := .none },
  { cls := 14, slots := #[.int 80], vm := .none },
  { cls := 14, slots := #[.int 81], vm := .none },
  { cls := 14, slots := #[.int 82], vm := .none },
  { cls := 14, slots := #[.int 83], vm := .none },
  { cls := 14, slots := #[.int 84], vm := .none },
  { cls := 14, slots := #[.int 85], vm := .none },
  { cls := 14, slots := #[.int 86], vm := .none },
  { cls := 14, slots := #[.int 87], vm := .none },
  { cls := 14, slots := #[.int 88], vm := .none },
  { cls := 14, slots := #[.int 89], vm := .none },
  { cls := 14, slots := #[.int 90], vm := .none },
  { cls := 14, slots := #[.int 91], vm := .none },
  { cls := 14, slots := #[.int 92], vm := .none },
  { cls := 14, slots := #[.int 93], vm := .none },
  { cls := 14, slots := #[.int 94], vm := .none },
  { cls := 14, slots := #[.int 95], vm := .none },
  { cls := 14, slots := #[.int 96], vm := .none },
  { cls := 14, slots := #[.int 97], vm := .none },
  { cls := 14, slots := #[.int 98], vm := .none },
  { cls := 14, slots := #[.int 99], vm := .none },
  { cls := 14, slots := #[.int 100], vm := .none },
  { cls := 14, slots := #[.int 101], vm := .none },
  { cls := 14, slots := #[.int 102], vm := .none },
  { cls := 14, slots := #[.int 103], vm := .none },
  { cls := 14, slots := #[.int 104], vm := .none },
  { cls := 14, slots := #[.int 105], vm := .none },
  { cls := 14, slots := #[.int 106], vm := .none },
  { cls := 14, slots := #[.int 107], vm := .none },
  { cls := 14, slots := #[.int 108], vm := .none },
  { cls := 14, slots := #[.int 109], vm := .none },
  { cls := 14, slots := #[.int 110], vm := .none },
  { cls := 14, slots := #[.int 111], vm := .none },
  { cls := 14, slots := #[.int 112], vm := .none },
  { cls := 14, slots := #[.int 113], vm := .none },
  { cls := 14, slots := #[.int 114], vm := .none },
  { cls := 14, slots := #[.int 115], vm := .none },
  { cls := 14, slots := #[.int 116], vm := .none },
  { cls := 14, slots := #[.int 117], vm := .none },
  { cls := 14, slots := #[.int 118], vm := .none },
  { cls := 14, slots := #[.int 119], vm := .none },
  { cls := 14, slots := #[.int 120], vm := .none },
  { cls := 14, slots := #[.int 121], vm := .none },
  { cls := 14, slots := #[.int 122], vm := .none },
  { cls := 14, slots := #[.int 123], vm := .none },
  { cls := 14, slots := #[.int 124], vm := .none },
  { cls := 14, slots := #[.int 125], vm := .none },
  { cls := 14, slots := #[.int 126], vm := .none },
  { cls := 14, slots := #[.int 127], vm := .none },
  { cls := 19, slots := #[], vm := .none }]
def classes : Array Class := #[k0, k1, k2, k3, k4, k5, k6, k7, k8, k9, k10, k11, k12, k13, k14, k15, k16, k17, k18, k19, k20, k21, k22, k23, k24, k25, k26, k27]
def interned : List (Array UInt16 × Addr) := []
def slotsUsed : Nat := 530
def theMethod : MethodId := ⟨1, 1⟩
def args0 : Array Value := #[.int 5, .int 5]
def aboutOver (below : List Frame) : State where
  vm := { classes := classes, interned := interned.toArray }
  heap := heap
  slotsUsed := slotsUsed
  threads := #[{ frames := .invoking theMethod args0 :: below }]
def below0 : List Frame := [.native { method := ⟨0, 0⟩, args := #[] }]
def about1 : State := aboutOver below0
def p0 : Program := .bare "" "" ""
def e0 : Env := launch0.env 0 0 0
theorem w_frames : about1.frames = Frame.invoking theMethod args0 :: below0 := rfl
set_option maxRecDepth 65536 in
theorem w_args : argsFit about1.vm theMethod args0 = true := by decide +kernel
set_option maxRecDepth 65536 in
theorem w_heap : heapFits about1 = true := by decide +kernel
set_option maxRecDepth 65536 in
theorem w_runnable : about1.curStatus? = some .runnable := by decide +kernel
set_option maxRecDepth 65536 in
theorem w_alone : about1.alone = true := by decide +kernel
set_option maxRecDepth 65536 in
theorem w_named : about1.methodNamed? x = some theMethod := by decide +kernel
set_option maxRecDepth 65536 in
theorem w_hears : about1.hears theMethod below0 = true := by decide +kernel
set_option maxRecDepth 65536 in
theorem w_ripe : about1.ripe theMethod args0 below0 = true := by decide +kernel
theorem w_running : about1.status = .running := rfl
set_option maxRecDepth 65536 in
theorem w_room : about1.hasRoom e0.platform room_1 = true :=
  launch0.hasRoom_least _ room_1 (by decide +kernel) (by decide +kernel) (by decide +kernel) (by decide +kernel) (by decide +kernel) (by decide +kernel)
theorem allAtoms_all (ts : List Jvm.Cond) (a : Array Jvm.Value) (st : Jvm.State) : (allAtoms ts).before a st = ts.all (fun c => c.before a st) := by
  induction ts with
  | nil => rfl
  | cons c t ih =>
    show (Jvm.Cond.and c (allAtoms t)).before a st = _
    rw [Jvm.Cond.before_and, ih, List.all_cons]
def words1 : List Jvm.Cond := Jvm.Cond.code x code maxLocals ret :: tables_1
/-- a 'code' word, met by the world's own term for the bytes: nothing is compared byte by byte -/
theorem code_word {y : MethodName} {bytes : ByteArray} {mx : Nat} {rt : Option FieldType} {a : Array Value} {s : State} {m : MethodId} {meth : Method} {c : Code} (h1 : s.methodNamed? y = some m) (h2 : s.vm.method? m = some meth) (h3 : meth.code = some c) (h4 : c.code = bytes)
    (h5 : (c.maxLocals == mx && c.exceptionTable.isEmpty && decide (c.maxStack ≤ mostOperands) && decide (meth.sig.returnType = rt) && !meth.locks && decide (parseMethodDescriptor y.desc = some meth.sig)) = true) : (Jvm.Cond.code y bytes mx rt).before a s = true := by
  simp only [Bool.and_eq_true, beq_iff_eq, Bool.not_eq_true', decide_eq_true_eq] at h5
  obtain ⟨⟨⟨⟨⟨g1, g2⟩, g3⟩, g4⟩, g5⟩, g6⟩ := h5
  simp [Cond.before, Cond.holds, Cond.value, h1, h2, h3, h4, g1, g2, g3, g4, g5, g6]
def isCode : Jvm.Cond → Bool
  | .code _ _ _ _ => true
  | _ => false
theorem all_split {L : List Jvm.Cond} {P : Jvm.Cond → Bool} (h1 : L.all (fun c => isCode c || P c) = true) (h2 : ∀ c ∈ L.filter isCode, P c = true) : L.all P = true := by
  refine List.all_eq_true.mpr fun c hc => ?_
  have h := List.all_eq_true.mp h1 c hc
  rcases Bool.eq_false_or_eq_true (isCode c) with hi | hi
  · exact h2 c (List.mem_filter.mpr ⟨hc, hi⟩)
  · simpa [hi] using h
set_option maxRecDepth 65536 in
theorem w_c0 : (Jvm.Cond.code x code maxLocals ret).before args0 about1 = true := code_word (m := ⟨1, 1⟩) (meth := k1m1) (c := k1c1) (by decide +kernel) rfl rfl rfl (by decide +kernel)
set_option maxRecDepth 65536 in
theorem w_c1 : (Jvm.Cond.code ({ cls := "java/lang/String", name := "<init>", desc := "([C)V" } : Jvm.MethodName) jdk_42_method_3_code (2 : Nat) (Option.none : Option Jvm.ClassFile.FieldType)).before args0 about1 = true := code_word (m := ⟨7, 1⟩) (meth := k7m1) (c := k7c1) (by decide +kernel) rfl rfl rfl (by decide +kernel)
set_option maxRecDepth 65536 in
theorem w_c2 : (Jvm.Cond.code ({ cls := "java/lang/String", name := "<init>", desc := "([CIILjava/lang/Void;)V" } : Jvm.MethodName) jdk_42_method_149_code (6 : Nat) (Option.none : Option Jvm.ClassFile.FieldType)).before args0 about1 = true := code_word (m := ⟨7, 2⟩) (meth := k7m2) (c := k7c2) (by decide +kernel) rfl rfl rfl (by decide +kernel)
set_option maxRecDepth 65536 in
theorem w_c3 : (Jvm.Cond.code ({ cls := "java/lang/Object", name := "<init>", desc := "()V" } : Jvm.MethodName) object_method_1_code (1 : Nat) (Option.none : Option Jvm.ClassFile.FieldType)).before args0 about1 = true := code_word (m := ⟨0, 0⟩) (meth := k0m0) (c := k0c0) (by decide +kernel) rfl rfl rfl (by decide +kernel)
set_option maxRecDepth 65536 in
theorem w_c4 : (Jvm.Cond.code ({ cls := "java/lang/StringUTF16", name := "compress", desc := "([CII)[B" } : Jvm.MethodName) jdk_52_method_16_code (6 : Nat) (Option.some (Jvm.ClassFile.FieldType.array Jvm.ClassFile.FieldType.byte))).before args0 about1 = true := code_word (m := ⟨8, 2⟩) (meth := k8m2) (c := k8c2) (by decide +kernel) rfl rfl rfl (by decide +kernel)
set_option maxRecDepth 65536 in
theorem w_c5 : (Jvm.Cond.code ({ cls := "java/lang/StringUTF16", name := "compress", desc := "([CI[BII)I" } : Jvm.MethodName) jdk_52_method_21_code (7 : Nat) (Option.some Jvm.ClassFile.FieldType.int)).before args0 about1 = true := code_word (m := ⟨8, 3⟩) (meth := k8m3) (c := k8c3) (by decide +kernel) rfl rfl rfl (by decide +kernel)
set_option maxRecDepth 65536 in
theorem w_c6 : (Jvm.Cond.code ({ cls := "java/lang/StringUTF16", name := "coderFromArrayLen", desc := "([BI)B" } : Jvm.MethodName) jdk_52_method_15_code (2 : Nat) (Option.some Jvm.ClassFile.FieldType.byte)).before args0 about1 = true := code_word (m := ⟨8, 1⟩) (meth := k8m1) (c := k8c1) (by decide +kernel) rfl rfl rfl (by decide +kernel)
set_option maxRecDepth 65536 in
theorem w_c7 : (Jvm.Cond.code ({ cls := "com/example/bowerbird/bowerbird/service/Evaluator", name := "orNull", desc := "(Ljava/lang/Object;)Ljava/lang/Object;" } : Jvm.MethodName) prog_82_method_35_code (1 : Nat) (Option.some (Jvm.ClassFile.FieldType.object "java/lang/Object"))).before args0 about1 = true := code_word (m := ⟨12, 0⟩) (meth := k12m0) (c := k12c0) (by decide +kernel) rfl rfl rfl (by decide +kernel)
set_option maxRecDepth 65536 in
theorem w_c8 : (Jvm.Cond.code ({ cls := "java/lang/Integer", name := "valueOf", desc := "(I)Ljava/lang/Integer;" } : Jvm.MethodName) jdk_33_method_22_code (1 : Nat) (Option.some (Jvm.ClassFile.FieldType.object "java/lang/Integer"))).before args0 about1 = true := code_word (m := ⟨14, 0⟩) (meth := k14m0) (c := k14c0) (by decide +kernel) rfl rfl rfl (by decide +kernel)
set_option maxRecDepth 65536 in
theorem w_c9 : (Jvm.Cond.code ({ cls := "java/lang/Integer", name := "<init>", desc := "(I)V" } : Jvm.MethodName) jdk_33_method_23_code (2 : Nat) (Option.none : Option Jvm.ClassFile.FieldType)).before args0 about1 = true := code_word (m := ⟨14, 1⟩) (meth := k14m1) (c := k14c1) (by decide +kernel) rfl rfl rfl (by decide +kernel)
set_option maxRecDepth 65536 in
theorem w_c10 : (Jvm.Cond.code ({ cls := "java/lang/Number", name := "<init>", desc := "()V" } : Jvm.MethodName) jdk_18_method_1_code (1 : Nat) (Option.none : Option Jvm.ClassFile.FieldType)).before args0 about1 = true := code_word (m := ⟨13, 0⟩) (meth := k13m0) (c := k13c0) (by decide +kernel) rfl rfl rfl (by decide +kernel)
def codes1 : List Jvm.Cond := [Jvm.Cond.code x code maxLocals ret, Jvm.Cond.code ({ cls := "java/lang/String", name := "<init>", desc := "([C)V" } : Jvm.MethodName) jdk_42_method_3_code (2 : Nat) (Option.none : Option Jvm.ClassFile.FieldType), Jvm.Cond.code ({ cls := "java/lang/String", name := "<init>", desc := "([CIILjava/lang/Void;)V" } : Jvm.MethodName) jdk_42_method_149_code (6 : Nat) (Option.none : Option Jvm.ClassFile.FieldType), Jvm.Cond.code ({ cls := "java/lang/Object", name := "<init>", desc := "()V" } : Jvm.MethodName) object_method_1_code (1 : Nat) (Option.none : Option Jvm.ClassFile.FieldType), Jvm.Cond.code ({ cls := "java/lang/StringUTF16", name := "compress", desc := "([CII)[B" } : Jvm.MethodName) jdk_52_method_16_code (6 : Nat) (Option.some (Jvm.ClassFile.FieldType.array Jvm.ClassFile.FieldType.byte)), Jvm.Cond.code ({ cls := "java/lang/StringUTF16", name := "compress", desc := "([CI[BII)I" } : Jvm.MethodName) jdk_52_method_21_code (7 : Nat) (Option.some Jvm.ClassFile.FieldType.int), Jvm.Cond.code ({ cls := "java/lang/StringUTF16", name := "coderFromArrayLen", desc := "([BI)B" } : Jvm.MethodName) jdk_52_method_15_code (2 : Nat) (Option.some Jvm.ClassFile.FieldType.byte), Jvm.Cond.code ({ cls := "com/example/bowerbird/bowerbird/service/Evaluator", name := "orNull", desc := "(Ljava/lang/Object;)Ljava/lang/Object;" } : Jvm.MethodName) prog_82_method_35_code (1 : Nat) (Option.some (Jvm.ClassFile.FieldType.object "java/lang/Object")), Jvm.Cond.code ({ cls := "java/lang/Integer", name := "valueOf", desc := "(I)Ljava/lang/Integer;" } : Jvm.MethodName) jdk_33_method_22_code (1 : Nat) (Option.some (Jvm.ClassFile.FieldType.object "java/lang/Integer")), Jvm.Cond.code ({ cls := "java/lang/Integer", name := "<init>", desc := "(I)V" } : Jvm.MethodName) jdk_33_method_23_code (2 : Nat) (Option.none : Option Jvm.ClassFile.FieldType), Jvm.Cond.code ({ cls := "java/lang/Number", name := "<init>", desc := "()V" } : Jvm.MethodName) jdk_18_method_1_code (1 : Nat) (Option.none : Option Jvm.ClassFile.FieldType)]
set_option maxRecDepth 65536 in
theorem codes_eq : words1.filter isCode = codes1 := rfl
theorem w_codes : ∀ c ∈ words1.filter isCode, c.before args0 about1 = true := by
  rw [codes_eq]
  intro c hc
  simp only [codes1, List.mem_cons, List.not_mem_nil, or_false] at hc
  rcases hc with rfl | rfl | rfl | rfl | rfl | rfl | rfl | rfl | rfl | rfl | rfl
  · exact w_c0
  · exact w_c1
  · exact w_c2
  · exact w_c3
  · exact w_c4
  · exact w_c5
  · exact w_c6
  · exact w_c7
  · exact w_c8
  · exact w_c9
  · exact w_c10
set_option maxRecDepth 65536 in
theorem w_t1 : (words1.take 24).all (fun c => isCode c || c.before args0 about1) = true := by decide +kernel
set_option maxRecDepth 65536 in
theorem w_t2 : ((words1.drop 24).take 24).all (fun c => isCode c || c.before args0 about1) = true := by decide +kernel
set_option maxRecDepth 65536 in
theorem w_t3 : ((words1.drop 24).drop 24).all (fun c => isCode c || c.before args0 about1) = true := by decide +kernel
theorem w_tables : (allAtoms (Jvm.Cond.code x code maxLocals ret :: tables_1)).before args0 about1 = true := by
  rw [allAtoms_all]
  show words1.all (fun c => c.before args0 about1) = true
  refine all_split ?_ w_codes
  rw [← List.take_append_drop 24 words1, List.all_append, w_t1, ← List.take_append_drop 24 (words1.drop 24), List.all_append, w_t2, w_t3]
  rfl
set_option maxRecDepth 65536 in
theorem w_rest : rest_1_c.before args0 about1 = true := by decide +kernel
set_option maxRecDepth 65536 in
theorem w_case : (Jvm.Cond.and given_1 narrow_1).before args0 about1 = true := by decide +kernel
theorem w_applies : (headSpec (Jvm.Cond.code x code maxLocals ret :: tables_1) room_1).applies x e0.platform about1 = true :=
  (Spec.applies_iff w_frames).mpr ⟨w_running, w_runnable, w_alone, w_named, w_hears, w_ripe, w_room, w_tables⟩
theorem atStart : AtStart classFile x code maxLocals ret World_1 tables_1 room_1 Calls_1 rest_1 Pre_1 launch0 p0 e0 about1 theMethod args0 below0 :=
  ⟨lists_1, trivial, launch0.admits_env _ _ _, launch0.least_env, fairChoices_fair.cas, fairChoices_fair.clock, w_frames, w_args, w_heap, w_applies, trivial, w_rest, w_case⟩
end start1
theorem witness_1 : WitnessClaimed_1 := ⟨start1.p0, start1.e0, start1.about1, start1.theMethod, start1.args0, start1.below0, start1.atStart⟩
end Jvm.Pilot.@@N@@
