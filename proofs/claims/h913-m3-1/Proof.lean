import JvmDerived
import JvmDerived.Pilot.@@N@@Statement
import JvmDerived.Pilot.@@N@@Code
set_option linter.unusedVariables false
set_option linter.unusedSimpArgs false
namespace Jvm.Pilot.@@N@@
open Jvm Jvm.ClassFile Sem Op Lib Jvm.Free Jvm.Stand Jvm.LawKit Jvm.RoadKit Bundle Jvm.Pilot.@@N@@.Jvm.D
section Own
variable {p : Program} {l : Launch} {e : Env} {R : Room} {s : State} {m : MethodId} {args : Array Value} {below : List Frame} {meth : Method} {c : Code} {T : State} {locs : List Loc} {cells slots : Nat} {Z : State} {a0 : Array Value} {h : Heap} {Φ : Outcome → State → Prop}
/-- what is left of a walk: from S the invocation ends as Φ says -/
def OGo (tb : Tables) (e : Env) (below : List Frame) (Φ : Outcome → State → Prop) (S : State) : Prop := ∃ s₂ o, Steps tb e below S s₂ ∧ s₂.status = .running ∧ Ended s₂ below o ∧ Φ o s₂
theorem OGo.st {tb : Tables} {S S' : State} (h : ∀ t, Steps tb e below S' t → Steps tb e below S t) (g : OGo tb e below Φ S') : OGo tb e below Φ S := by
  obtain ⟨s₂, o, h1, r⟩ := g
  exact ⟨s₂, o, h _ h1, r⟩
theorem OGo.fin (X : Stand p l e R s m args below meth c T locs cells slots) (hlk : meth.locks = false) {v : Option Value} (hv : meth.sig.returnType = none → v = none) {g : JFrame} {k n : Nat} (hk : cells ≤ k) (hn : slots ≤ n)
    (st : ∀ fs, (∀ (f : JFrame) (acts : List Action), f.method = m → f.locked = none → f.entered = [] → (doReturn e (T.setTop f) acts v).1 = T.setFrames fs) → Steps p.tables e below (T.setTop g) (T.setFrames fs))
    (hq : ∀ U, U.heap = T.heap → FrameEnd s (.returned v) U locs k n → Φ (.returned v) U) : OGo p.tables e below Φ (T.setTop g) := by
  obtain ⟨fs, hr, hrun, hended, hW, hsame⟩ := X.leave (v := v) hv hlk
  exact ⟨_, _, st fs hr, hrun, hended, hq _ rfl ⟨⟨_, rfl⟩, hW, hsame.mono hk hn⟩⟩
/-- a contract: what every body's theorem says -/
abbrev OCon (l : Launch) (Z : State) (y : MethodName) (bytes : ByteArray) (maxL : Nat) (ret : Option FieldType) (ws : List Jvm.Cond) (rm : Room) (as' : Array Value) (h0 : Heap) (Q : Option Value → Heap → List Loc → Prop) : Prop :=
  MetFree l y (head1 (Jvm.Cond.code y bytes maxL ret :: ws) rm) (fun a U => a = as' ∧ Z.Warmed39 U.vm ∧ U.heap = h0) (fun _ _ _ _ _ => True) (fun _ U o U' => ∃ v L, o = .returned v ∧ Q v U'.heap L ∧ FrameEnd U o U' L rm.cells rm.slots)
theorem OCon.of {y : MethodName} {bytes : ByteArray} {maxL : Nat} {ret : Option FieldType} {ws : List Jvm.Cond} {rm : Room} {as' : Array Value} {h0 : Heap} {Q : Option Value → Heap → List Loc → Prop} (hpl : plainFor y = true)
    (H : ∀ (p : Program) (e : Env) (s : State) (m : MethodId) (below : List Frame) (meth : Method) (c : Code) (s₁ : State) (Φ : Outcome → State → Prop), Stand p l e rm s m as' below meth c s₁ [] 0 0 → p.tables.exec = Jvm.exec → c.code = bytes → c.maxLocals = maxL → s.vm.findClass y.cls = some m.cls → meth.name = y.name → meth.sig.returnType = ret → meth.locks = false → Z.Warmed39 s.vm → s₁.heap = h0 →
      (∀ v L U, Q v U.heap L → FrameEnd s (.returned v) U L rm.cells rm.slots → Φ (.returned v) U) → OGo p.tables e below Φ (s₁.setTop (entryFrame m as' maxL))) :
    OCon l Z y bytes maxL ret ws rm as' h0 Q := by
  refine MetFree.of_bodySF hpl hisR ?_
  intro p e s m args below meth c s₁ Bd hml0 hP hK
  obtain ⟨rfl, hZ, hh⟩ := hP
  have e0 : s₁.heap = h0 := by rw [← hh, Bd.state]; rfl
  exact H p e s m below meth c s₁ _ (Stand.of_body Bd) Bd.exec Bd.bytes hml0 (findClass_of_methodNamed Bd.named) (name_of_methodNamed Bd.named Bd.method).1 Bd.returns Bd.notSynchronized hZ e0 (fun v L U hq hf => ⟨v, L, rfl, hq, hf⟩)
theorem own_callSt (X : Stand p l e R s m args below meth c T locs cells slots) (hx : p.tables.exec = Jvm.exec) (hZ : Z.Warmed39 s.vm) {own : String} {index : Nat} {y : MethodName} {bytes : ByteArray} {maxL : Nat} {ret : Option FieldType} {rm : Room} {as' : Array Value} {Q : Option Value → Heap → List Loc → Prop}
    (hown : s.vm.findClass own = some m.cls) (w1 : (Jvm.Cond.methodLink own index y).before a0 Z = true) (w2 : (Jvm.Cond.static y).before a0 Z = true) (w3 : (Jvm.Cond.initialized y.cls).before a0 Z = true) (w4 : (Jvm.Cond.code y bytes maxL ret).before a0 Z = true) (hy : y.cls ≠ "java/lang/invoke/MethodHandle" ∧ y.cls ≠ "java/lang/invoke/VarHandle")
    (hM : OCon l Z y bytes maxL ret [] rm as' h Q) (eT : T.heap = h) {W : Nat} (hf : rm.frames + 1 ≤ R.frames) (hl : W + (maxL + 11) + rm.locals ≤ R.locals) (hcl : cells + rm.cells ≤ R.cells) (hsl : slots + rm.slots ≤ R.slots)
    {pc : Nat} {ls : Array Slot} {stk : List Value} (hsize : ls.size = c.maxLocals) {argsL rest : List Value} (hlen : ∀ sig, parseMethodDescriptor y.desc = some sig → argsL.length = sig.parameters.length) (has : argsL.toArray = as') (hstack : stk = argsL.reverse ++ rest) (hW : (rest.map fun v => v.category).sum ≤ W)
    (hd : decode c.code pc = .ok (.invokestatic index, 3)) :
    ∃ v T' L, Stand p l e R s m args below meth c T' (locs ++ L) (cells + rm.cells) (slots + rm.slots) ∧ Q v T'.heap L ∧ ∀ target, Steps p.tables e below (T'.setTop (mkF m (pc + 3) ls (v.toList ++ rest))) target → Steps p.tables e below (T.setTop (mkF m pc ls stk)) target := by
  subst has
  obtain ⟨v, vm₁, ⟨T', L', k', n'⟩, -, X', ⟨L, hQ, l1, y1, z1⟩, st⟩ := Jvm.LawKit.callS X hx (y := y) hown (mvT hZ w1) (mvT hZ w2) (mvT hZ w3) (mvT hZ w4) hy (backOf (W := W) hM hZ w4 w3 hf hl) (g := mkF m pc ls stk) rfl hsize (argsL := argsL) (rest := rest) hlen hstack (by simpa using hW) hd (fun _ _ => ⟨rfl, eT, hcl, hsl⟩)
  dsimp only [Pt.U, Pt.locs, Pt.cells, Pt.slots] at X' l1 y1 z1 st hQ
  subst l1 y1 z1
  exact ⟨v, T', L, X', hQ, st⟩
theorem own_callSp (X : Stand p l e R s m args below meth c T locs cells slots) (hx : p.tables.exec = Jvm.exec) (hZ : Z.Warmed39 s.vm) {own : String} {index : Nat} {y : MethodName} {bytes : ByteArray} {maxL : Nat} {rm : Room} {as' : Array Value} {Q : Option Value → Heap → List Loc → Prop}
    (hy1 : y.name = "<init>") (hown : s.vm.findClass own = some m.cls) (w1 : (Jvm.Cond.methodLink own index y).before a0 Z = true) (w2 : (Jvm.Cond.instanceMethod y).before a0 Z = true) (w3 : (Jvm.Cond.initialized y.cls).before a0 Z = true) (w4 : (Jvm.Cond.code y bytes maxL none).before a0 Z = true) (hy : y.cls ≠ "java/lang/invoke/MethodHandle" ∧ y.cls ≠ "java/lang/invoke/VarHandle")
    (hM : OCon l Z y bytes maxL none [] rm as' h Q) (eT : T.heap = h) {W : Nat} (hf : rm.frames + 1 ≤ R.frames) (hl : W + (maxL + 11) + rm.locals ≤ R.locals) (hcl : cells + rm.cells ≤ R.cells) (hsl : slots + rm.slots ≤ R.slots)
    {pc : Nat} {ls : Array Slot} {stk : List Value} (hsize : ls.size = c.maxLocals) {a : Addr} {argsL rest : List Value} (hlen : ∀ sig, parseMethodDescriptor y.desc = some sig → argsL.length = sig.parameters.length) (has : (.ref a :: argsL).toArray = as') (hstack : stk = argsL.reverse ++ .ref a :: rest) (hW : (rest.map fun v => v.category).sum ≤ W)
    (hd : decode c.code pc = .ok (.invokespecial index, 3)) :
    ∃ v T' L, Stand p l e R s m args below meth c T' (locs ++ L) (cells + rm.cells) (slots + rm.slots) ∧ Q v T'.heap L ∧ ∀ target, Steps p.tables e below (T'.setTop (mkF m (pc + 3) ls (v.toList ++ rest))) target → Steps p.tables e below (T.setTop (mkF m pc ls stk)) target := by
  subst has
  obtain ⟨v, vm₁, ⟨T', L', k', n'⟩, -, X', ⟨L, hQ, l1, y1, z1⟩, st⟩ := X.specialBack hx (y := y) hy1 hown (mvT hZ w1) (mvT hZ w2) (mvT hZ w4) hy (backOf (W := W) hM hZ w4 w3 hf hl) (g := mkF m pc ls stk) rfl hsize (Steps.refl _) (a := a) (argsL := argsL) (rest := rest) hlen hstack (by simpa using hW) hd (fun _ _ => ⟨rfl, eT, hcl, hsl⟩)
  dsimp only [Pt.U, Pt.locs, Pt.cells, Pt.slots] at X' l1 y1 z1 st hQ
  subst l1 y1 z1
  exact ⟨v, T', L, X', hQ, fun t k => st.trans k⟩
theorem own_callVi (X : Stand p l e R s m args below meth c T locs cells slots) (hx : p.tables.exec = Jvm.exec) (hZ : Z.Warmed39 s.vm) {own C : String} {index : Nat} {y z : MethodName} {bytes : ByteArray} {maxL : Nat} {ret : Option FieldType} {rm : Room} {as' : Array Value} {Q : Option Value → Heap → List Loc → Prop}
    (hown : s.vm.findClass own = some m.cls) (w1 : (Jvm.Cond.methodLink own index y).before a0 Z = true) (w2 : (Jvm.Cond.declares y).before a0 Z = true) (nf : NotFace s y) (w3 : (Jvm.Cond.selects C y z).before a0 Z = true) (w4 : (Jvm.Cond.instanceMethod z).before a0 Z = true) (w5 : (Jvm.Cond.initialized z.cls).before a0 Z = true) (w6 : (Jvm.Cond.code z bytes maxL ret).before a0 Z = true) (hy : y.cls ≠ "java/lang/invoke/MethodHandle" ∧ y.cls ≠ "java/lang/invoke/VarHandle")
    (hM : OCon l Z z bytes maxL ret [] rm as' h Q) (eT : T.heap = h) {W : Nat} (hf : rm.frames + 1 ≤ R.frames) (hl : W + (maxL + 11) + rm.locals ≤ R.locals) (hcl : cells + rm.cells ≤ R.cells) (hsl : slots + rm.slots ≤ R.slots) {a : Addr} (E : Exa Z h a C)
    {pc : Nat} {ls : Array Slot} {stk : List Value} (hsize : ls.size = c.maxLocals) {argsL rest : List Value} (hlen : ∀ sig, parseMethodDescriptor y.desc = some sig → argsL.length = sig.parameters.length) (has : (.ref a :: argsL).toArray = as') (hstack : stk = argsL.reverse ++ .ref a :: rest) (hW : (rest.map fun v => v.category).sum ≤ W)
    (hd : decode c.code pc = .ok (.invokevirtual index, 3)) :
    ∃ v T' L, Stand p l e R s m args below meth c T' (locs ++ L) (cells + rm.cells) (slots + rm.slots) ∧ Q v T'.heap L ∧ ∀ target, Steps p.tables e below (T'.setTop (mkF m (pc + 3) ls (v.toList ++ rest))) target → Steps p.tables e below (T.setTop (mkF m pc ls stk)) target := by
  subst has
  obtain ⟨cq, kq, qa, qb, qc⟩ := isOf hZ eT E
  obtain ⟨v, vm₁, ⟨T', L', k', n'⟩, -, X', ⟨L, hQ, l1, y1, z1⟩, st⟩ := X.virtualBack hx (y := y) (z := z) hown (mvT hZ w1) (mvT hZ w2) nf (mvT hZ w3) (mvT hZ w4) hy (backOf (W := W) hM hZ w6 w5 hf hl) qa qc (g := mkF m pc ls stk) rfl hsize (Steps.refl _) (argsL := argsL) (rest := rest) hlen hstack (by simpa using hW) hd (fun _ _ => ⟨rfl, eT, hcl, hsl⟩)
  dsimp only [Pt.U, Pt.locs, Pt.cells, Pt.slots] at X' l1 y1 z1 st hQ
  subst l1 y1 z1
  exact ⟨v, T', L, X', hQ, fun t k => st.trans k⟩
theorem own_lremM {g : JFrame} {target : State} (X : Stand p l e R s m args below meth c T locs cells slots) (hx : p.tables.exec = Jvm.exec) (hg : g.method = m) {x y : Int64} {rest : List Value} (hd : decode c.code g.pc = .ok (.lrem, 1)) (hs : g.stack = .long y :: .long x :: rest) (hy : y ≠ 0)
    (hr : Steps p.tables e below (T.setTop { g with pc := g.pc + 1, stack := .long (x % y) :: rest }) target) : Steps p.tables e below (T.setTop g) target :=
  XT.lrem X.here hx hg hd hs hy (by rw [lrem_mod]; exact hr)
theorem own_nz {x : Int32} (q : x = 0 ∨ x = 1) : narrow .boolean (.int x) = .int x := by rcases q with rfl | rfl <;> rfl
theorem own_fz {x : Int32} (q : x = 0 ∨ x = 1) : fits .boolean (.int x) = true := by rcases q with rfl | rfl <;> rfl
theorem own_irr (x : Int32) : ¬ x < x := fun q => absurd (Int32.lt_iff_toInt_lt.mp q) (Int.lt_irrefl _)
theorem own_irrL (x : Int64) : ¬ x < x := fun q => absurd (Int64.lt_iff_toInt_lt.mp q) (Int.lt_irrefl _)
/-- a small int is one of the first n -/
theorem own_small {n : Nat} (hn : n < 2 ^ 31) (x : Int32) (h0 : ¬ x < 0) (h1 : x.toInt < n) : ∃ k : Fin n, x = Int32.ofInt k.val := by
  have h2 : 0 ≤ x.toInt := by
    rcases Int.lt_or_le x.toInt 0 with q | q
    · exact absurd (Int32.lt_iff_toInt_lt.mpr q) h0
    · exact q
  refine ⟨⟨x.toInt.toNat, by omega⟩, ?_⟩
  rw [Int.toNat_of_nonneg h2, Int32.ofInt_toInt]
end Own
section OwnSta
variable {args : Array Value} {Z : State} {a : Addr} {t : Jvm.Term}
theorem own_eqV {u : Jvm.Term} {v : Value} (hu : u.eval args Z none [] Z = some v) (hv : (match v with | .retAddr _ => false | _ => true) = true) (q : (Jvm.Cond.eq t u).value args Z none Z [] = some true) : t.eval args Z none [] Z = some v := by
  obtain ⟨x, y, ex, ey, k1, k2⟩ := cmp_v (Or.inl q)
  cases hu.symm.trans ey
  rw [ex]
  cases x <;> cases v <;> simp_all [Jvm.Cond.value, Kin, Value.isRef]
theorem own_fldI {C n d : String} {k : Int32} (ev : t.eval args Z none [] Z = some (.ref a)) (q : (Jvm.Cond.eq (Jvm.Term.field t C n d) (Jvm.Term.int k)).value args Z none Z [] = some true) : Fld Z Z.heap a C n d (.int k) :=
  Fld.start ((fld_at ev).symm.trans (own_eqV (Term.int_eval k) rfl q))
theorem own_lenI {k : Int32} {cl : Cell} {ty : FieldType} (ev : t.eval args Z none [] Z = some (.ref a)) (A : Arr Z Z.heap a cl ty) (q : (Jvm.Cond.eq (Jvm.Term.length t) (Jvm.Term.int k)).value args Z none Z [] = some true) : cl.slots.size < 2 ^ 31 ∧ cl.slots.size.toInt32 = k := by
  have h := own_eqV (Term.int_eval k) rfl q
  obtain ⟨b, cell, ht, harr, hl⟩ := Term.length_spec h
  cases ev.symm.trans ht
  have ha : Z.arrayAt? a = some cl := Arr.fin (Vm.Alike.refl _) A
  cases ha.symm.trans harr
  by_cases hs : cl.slots.size < 2 ^ 31
  · exact ⟨hs, (Value.int.inj (Option.some.inj ((len_f ev ha hs).symm.trans h)))⟩
  · exfalso
    rw [Jvm.Term.eval, ev] at h
    simp [ha] at h
    omega
theorem own_elem {j : Int32} {n : Nat} {u : Jvm.Term} {v : Value} {cl : Cell} {ty : FieldType} (ev : t.eval args Z none [] Z = some (.ref a)) (A : Arr Z Z.heap a cl ty) (hu : u.eval args Z none [] Z = some v) (hv : (match v with | .retAddr _ => false | _ => true) = true) (hj : j.toNatClampNeg = n) (q : (Jvm.Cond.eq (Jvm.Term.elem t (Jvm.Term.int j)) u).value args Z none Z [] = some true) : cl.slots[n]? = some v :=
  hj ▸ (elem_in (own_eqV hu hv q) ev (Term.int_eval j) A.1).2
end OwnSta
theorem ow0 {Z : State} {a0 : Array Value} (hw : ∀ d ∈ tables_1, d.before a0 Z = true) : (Jvm.Cond.methodLink "com/example/tersewire/tersewire/WirePrimitiveKindPinLaw" (46 : Nat) ({ cls := "com/example/tersewire/tersewire/Wire", name := "primitiveKind", desc := "(J)Lcom/example/tersewire/tersewire/ValueKind;" } : Jvm.MethodName)).before a0 Z = true := hw _ (List.mem_of_getElem? (i := 0) rfl)
theorem ow1 {Z : State} {a0 : Array Value} (hw : ∀ d ∈ tables_1, d.before a0 Z = true) : (Jvm.Cond.static ({ cls := "com/example/tersewire/tersewire/Wire", name := "primitiveKind", desc := "(J)Lcom/example/tersewire/tersewire/ValueKind;" } : Jvm.MethodName)).before a0 Z = true := hw _ (List.mem_of_getElem? (i := 1) rfl)
theorem ow2 {Z : State} {a0 : Array Value} (hw : ∀ d ∈ tables_1, d.before a0 Z = true) : (Jvm.Cond.initialized "com/example/tersewire/tersewire/Wire").before a0 Z = true := hw _ (List.mem_of_getElem? (i := 2) rfl)
theorem ow3 {Z : State} {a0 : Array Value} (hw : ∀ d ∈ tables_1, d.before a0 Z = true) : (Jvm.Cond.code ({ cls := "com/example/tersewire/tersewire/Wire", name := "primitiveKind", desc := "(J)Lcom/example/tersewire/tersewire/ValueKind;" } : Jvm.MethodName) prog_32_method_4_code (2 : Nat) (Option.some (Jvm.ClassFile.FieldType.object "com/example/tersewire/tersewire/ValueKind"))).before a0 Z = true := hw _ (List.mem_of_getElem? (i := 3) rfl)
theorem ow4 {Z : State} {a0 : Array Value} (hw : ∀ d ∈ tables_1, d.before a0 Z = true) : (Jvm.Cond.constantLong "com/example/tersewire/tersewire/Wire" (46 : Nat) (32 : Int64)).before a0 Z = true := hw _ (List.mem_of_getElem? (i := 4) rfl)
theorem ow5 {Z : State} {a0 : Array Value} (hw : ∀ d ∈ tables_1, d.before a0 Z = true) : (Jvm.Cond.fieldLink "com/example/tersewire/tersewire/Wire" (48 : Nat) "com/example/tersewire/tersewire/Wire" "PRIMITIVE_KINDS" "[Lcom/example/tersewire/tersewire/ValueKind;").before a0 Z = true := hw _ (List.mem_of_getElem? (i := 5) rfl)
theorem ow6 {Z : State} {a0 : Array Value} (hw : ∀ d ∈ tables_1, d.before a0 Z = true) : (Jvm.Cond.laysStatic "com/example/tersewire/tersewire/Wire" "PRIMITIVE_KINDS" "[Lcom/example/tersewire/tersewire/ValueKind;").before a0 Z = true := hw _ (List.mem_of_getElem? (i := 6) rfl)
theorem ow7 {Z : State} {a0 : Array Value} (hw : ∀ d ∈ tables_1, d.before a0 Z = true) : (Jvm.Cond.methodLink "com/example/tersewire/tersewire/WirePrimitiveKindPinLaw" (52 : Nat) ({ cls := "com/example/tersewire/tersewire/WirePrimitiveKindPinLaw", name := "expected", desc := "(J)Lcom/example/tersewire/tersewire/ValueKind;" } : Jvm.MethodName)).before a0 Z = true := hw _ (List.mem_of_getElem? (i := 7) rfl)
theorem ow8 {Z : State} {a0 : Array Value} (hw : ∀ d ∈ tables_1, d.before a0 Z = true) : (Jvm.Cond.static ({ cls := "com/example/tersewire/tersewire/WirePrimitiveKindPinLaw", name := "expected", desc := "(J)Lcom/example/tersewire/tersewire/ValueKind;" } : Jvm.MethodName)).before a0 Z = true := hw _ (List.mem_of_getElem? (i := 8) rfl)
theorem ow9 {Z : State} {a0 : Array Value} (hw : ∀ d ∈ tables_1, d.before a0 Z = true) : (Jvm.Cond.initialized "com/example/tersewire/tersewire/WirePrimitiveKindPinLaw").before a0 Z = true := hw _ (List.mem_of_getElem? (i := 9) rfl)
theorem ow10 {Z : State} {a0 : Array Value} (hw : ∀ d ∈ tables_1, d.before a0 Z = true) : (Jvm.Cond.code ({ cls := "com/example/tersewire/tersewire/WirePrimitiveKindPinLaw", name := "expected", desc := "(J)Lcom/example/tersewire/tersewire/ValueKind;" } : Jvm.MethodName) method_2_code (2 : Nat) (Option.some (Jvm.ClassFile.FieldType.object "com/example/tersewire/tersewire/ValueKind"))).before a0 Z = true := hw _ (List.mem_of_getElem? (i := 10) rfl)
theorem ow11 {Z : State} {a0 : Array Value} (hw : ∀ d ∈ tables_1, d.before a0 Z = true) : (Jvm.Cond.constantLong "com/example/tersewire/tersewire/WirePrimitiveKindPinLaw" (16 : Nat) (5 : Int64)).before a0 Z = true := hw _ (List.mem_of_getElem? (i := 11) rfl)
theorem ow12 {Z : State} {a0 : Array Value} (hw : ∀ d ∈ tables_1, d.before a0 Z = true) : (Jvm.Cond.constantLong "com/example/tersewire/tersewire/WirePrimitiveKindPinLaw" (21 : Nat) (10 : Int64)).before a0 Z = true := hw _ (List.mem_of_getElem? (i := 12) rfl)
theorem ow13 {Z : State} {a0 : Array Value} (hw : ∀ d ∈ tables_1, d.before a0 Z = true) : (Jvm.Cond.constantLong "com/example/tersewire/tersewire/WirePrimitiveKindPinLaw" (26 : Nat) (12 : Int64)).before a0 Z = true := hw _ (List.mem_of_getElem? (i := 13) rfl)
theorem ow14 {Z : State} {a0 : Array Value} (hw : ∀ d ∈ tables_1, d.before a0 Z = true) : (Jvm.Cond.constantLong "com/example/tersewire/tersewire/WirePrimitiveKindPinLaw" (31 : Nat) (13 : Int64)).before a0 Z = true := hw _ (List.mem_of_getElem? (i := 14) rfl)
theorem ow15 {Z : State} {a0 : Array Value} (hw : ∀ d ∈ tables_1, d.before a0 Z = true) : (Jvm.Cond.constantLong "com/example/tersewire/tersewire/WirePrimitiveKindPinLaw" (36 : Nat) (14 : Int64)).before a0 Z = true := hw _ (List.mem_of_getElem? (i := 15) rfl)
theorem ow16 {Z : State} {a0 : Array Value} (hw : ∀ d ∈ tables_1, d.before a0 Z = true) : (Jvm.Cond.constantLong "com/example/tersewire/tersewire/WirePrimitiveKindPinLaw" (41 : Nat) (15 : Int64)).before a0 Z = true := hw _ (List.mem_of_getElem? (i := 16) rfl)
theorem ow17 {Z : State} {a0 : Array Value} (hw : ∀ d ∈ tables_1, d.before a0 Z = true) : (Jvm.Cond.initialized "com/example/tersewire/tersewire/ValueKind").before a0 Z = true := hw _ (List.mem_of_getElem? (i := 17) rfl)
theorem ow18 {Z : State} {a0 : Array Value} (hw : ∀ d ∈ tables_1, d.before a0 Z = true) : (Jvm.Cond.laysStatic "com/example/tersewire/tersewire/ValueKind" "BOOL" "Lcom/example/tersewire/tersewire/ValueKind;").before a0 Z = true := hw _ (List.mem_of_getElem? (i := 18) rfl)
theorem ow19 {Z : State} {a0 : Array Value} (hw : ∀ d ∈ tables_1, d.before a0 Z = true) : (Jvm.Cond.fieldLink "com/example/tersewire/tersewire/WirePrimitiveKindPinLaw" (13 : Nat) "com/example/tersewire/tersewire/ValueKind" "BOOL" "Lcom/example/tersewire/tersewire/ValueKind;").before a0 Z = true := hw _ (List.mem_of_getElem? (i := 19) rfl)
theorem ow20 {Z : State} {a0 : Array Value} (hw : ∀ d ∈ tables_1, d.before a0 Z = true) : (Jvm.Cond.laysStatic "com/example/tersewire/tersewire/ValueKind" "DECIMAL" "Lcom/example/tersewire/tersewire/ValueKind;").before a0 Z = true := hw _ (List.mem_of_getElem? (i := 20) rfl)
theorem ow21 {Z : State} {a0 : Array Value} (hw : ∀ d ∈ tables_1, d.before a0 Z = true) : (Jvm.Cond.fieldLink "com/example/tersewire/tersewire/WirePrimitiveKindPinLaw" (33 : Nat) "com/example/tersewire/tersewire/ValueKind" "DECIMAL" "Lcom/example/tersewire/tersewire/ValueKind;").before a0 Z = true := hw _ (List.mem_of_getElem? (i := 21) rfl)
theorem ow22 {Z : State} {a0 : Array Value} (hw : ∀ d ∈ tables_1, d.before a0 Z = true) : (Jvm.Cond.laysStatic "com/example/tersewire/tersewire/ValueKind" "BYTES" "Lcom/example/tersewire/tersewire/ValueKind;").before a0 Z = true := hw _ (List.mem_of_getElem? (i := 22) rfl)
theorem ow23 {Z : State} {a0 : Array Value} (hw : ∀ d ∈ tables_1, d.before a0 Z = true) : (Jvm.Cond.fieldLink "com/example/tersewire/tersewire/WirePrimitiveKindPinLaw" (43 : Nat) "com/example/tersewire/tersewire/ValueKind" "BYTES" "Lcom/example/tersewire/tersewire/ValueKind;").before a0 Z = true := hw _ (List.mem_of_getElem? (i := 23) rfl)
theorem ow24 {Z : State} {a0 : Array Value} (hw : ∀ d ∈ tables_1, d.before a0 Z = true) : (Jvm.Cond.laysStatic "com/example/tersewire/tersewire/ValueKind" "NULL" "Lcom/example/tersewire/tersewire/ValueKind;").before a0 Z = true := hw _ (List.mem_of_getElem? (i := 24) rfl)
theorem ow25 {Z : State} {a0 : Array Value} (hw : ∀ d ∈ tables_1, d.before a0 Z = true) : (Jvm.Cond.fieldLink "com/example/tersewire/tersewire/WirePrimitiveKindPinLaw" (7 : Nat) "com/example/tersewire/tersewire/ValueKind" "NULL" "Lcom/example/tersewire/tersewire/ValueKind;").before a0 Z = true := hw _ (List.mem_of_getElem? (i := 25) rfl)
theorem ow26 {Z : State} {a0 : Array Value} (hw : ∀ d ∈ tables_1, d.before a0 Z = true) : (Jvm.Cond.laysStatic "com/example/tersewire/tersewire/ValueKind" "FLOAT64" "Lcom/example/tersewire/tersewire/ValueKind;").before a0 Z = true := hw _ (List.mem_of_getElem? (i := 26) rfl)
theorem ow27 {Z : State} {a0 : Array Value} (hw : ∀ d ∈ tables_1, d.before a0 Z = true) : (Jvm.Cond.fieldLink "com/example/tersewire/tersewire/WirePrimitiveKindPinLaw" (28 : Nat) "com/example/tersewire/tersewire/ValueKind" "FLOAT64" "Lcom/example/tersewire/tersewire/ValueKind;").before a0 Z = true := hw _ (List.mem_of_getElem? (i := 27) rfl)
theorem ow28 {Z : State} {a0 : Array Value} (hw : ∀ d ∈ tables_1, d.before a0 Z = true) : (Jvm.Cond.laysStatic "com/example/tersewire/tersewire/ValueKind" "BIGINT" "Lcom/example/tersewire/tersewire/ValueKind;").before a0 Z = true := hw _ (List.mem_of_getElem? (i := 28) rfl)
theorem ow29 {Z : State} {a0 : Array Value} (hw : ∀ d ∈ tables_1, d.before a0 Z = true) : (Jvm.Cond.fieldLink "com/example/tersewire/tersewire/WirePrimitiveKindPinLaw" (23 : Nat) "com/example/tersewire/tersewire/ValueKind" "BIGINT" "Lcom/example/tersewire/tersewire/ValueKind;").before a0 Z = true := hw _ (List.mem_of_getElem? (i := 29) rfl)
theorem ow30 {Z : State} {a0 : Array Value} (hw : ∀ d ∈ tables_1, d.before a0 Z = true) : (Jvm.Cond.laysStatic "com/example/tersewire/tersewire/ValueKind" "INT64" "Lcom/example/tersewire/tersewire/ValueKind;").before a0 Z = true := hw _ (List.mem_of_getElem? (i := 30) rfl)
theorem ow31 {Z : State} {a0 : Array Value} (hw : ∀ d ∈ tables_1, d.before a0 Z = true) : (Jvm.Cond.fieldLink "com/example/tersewire/tersewire/WirePrimitiveKindPinLaw" (18 : Nat) "com/example/tersewire/tersewire/ValueKind" "INT64" "Lcom/example/tersewire/tersewire/ValueKind;").before a0 Z = true := hw _ (List.mem_of_getElem? (i := 31) rfl)
theorem ow32 {Z : State} {a0 : Array Value} (hw : ∀ d ∈ tables_1, d.before a0 Z = true) : (Jvm.Cond.laysStatic "com/example/tersewire/tersewire/ValueKind" "STRING" "Lcom/example/tersewire/tersewire/ValueKind;").before a0 Z = true := hw _ (List.mem_of_getElem? (i := 32) rfl)
theorem ow33 {Z : State} {a0 : Array Value} (hw : ∀ d ∈ tables_1, d.before a0 Z = true) : (Jvm.Cond.fieldLink "com/example/tersewire/tersewire/WirePrimitiveKindPinLaw" (38 : Nat) "com/example/tersewire/tersewire/ValueKind" "STRING" "Lcom/example/tersewire/tersewire/ValueKind;").before a0 Z = true := hw _ (List.mem_of_getElem? (i := 33) rfl)
def own_kv (x : Int64) (k0 : Addr) (k1 : Addr) (k5 : Addr) (k10 : Addr) (k12 : Addr) (k13 : Addr) (k14 : Addr) (k15 : Addr) : Value := if x = 0 then .ref k0 else if x = 1 then .ref k1 else if x = 5 then .ref k5 else if x = 10 then .ref k10 else if x = 12 then .ref k12 else if x = 13 then .ref k13 else if x = 14 then .ref k14 else if x = 15 then .ref k15 else .null
theorem own_kv_ref (x : Int64) (k0 : Addr) (k1 : Addr) (k5 : Addr) (k10 : Addr) (k12 : Addr) (k13 : Addr) (k14 : Addr) (k15 : Addr) : (own_kv x k0 k1 k5 k10 k12 k13 k14 k15).isRef = true := by
  unfold own_kv
  repeat' split
  all_goals rfl
theorem own_kv_neg {x : Int64} (q : x < 0) (k0 : Addr) (k1 : Addr) (k5 : Addr) (k10 : Addr) (k12 : Addr) (k13 : Addr) (k14 : Addr) (k15 : Addr) : own_kv x k0 k1 k5 k10 k12 k13 k14 k15 = .null := by
  unfold own_kv
  repeat' split
  all_goals first | rfl | (rename_i z; rw [z] at q; exact absurd q (by decide))
theorem own_kv_big {x : Int64} (q : ¬ x < 32) (k0 : Addr) (k1 : Addr) (k5 : Addr) (k10 : Addr) (k12 : Addr) (k13 : Addr) (k14 : Addr) (k15 : Addr) : own_kv x k0 k1 k5 k10 k12 k13 k14 k15 = .null := by
  unfold own_kv
  repeat' split
  all_goals first | rfl | (rename_i z; rw [z] at q; exact absurd (by decide) q)
theorem own_lt32 (x : Int64) (q1 : ¬ x < 0) (q2 : x < 32) : x = 0 ∨ x = 1 ∨ x = 2 ∨ x = 3 ∨ x = 4 ∨ x = 5 ∨ x = 6 ∨ x = 7 ∨ x = 8 ∨ x = 9 ∨ x = 10 ∨ x = 11 ∨ x = 12 ∨ x = 13 ∨ x = 14 ∨ x = 15 ∨ x = 16 ∨ x = 17 ∨ x = 18 ∨ x = 19 ∨ x = 20 ∨ x = 21 ∨ x = 22 ∨ x = 23 ∨ x = 24 ∨ x = 25 ∨ x = 26 ∨ x = 27 ∨ x = 28 ∨ x = 29 ∨ x = 30 ∨ x = 31 := by
  have a0 : (0 : Int64).toInt = 0 := by decide
  have a32 : (32 : Int64).toInt = 32 := by decide
  rw [Int64.lt_iff_toInt_lt, a0] at q1
  rw [Int64.lt_iff_toInt_lt, a32] at q2
  have hf : ∀ k : Fin 32, Int64.ofInt (k.val : Int) = 0 ∨ Int64.ofInt (k.val : Int) = 1 ∨ Int64.ofInt (k.val : Int) = 2 ∨ Int64.ofInt (k.val : Int) = 3 ∨ Int64.ofInt (k.val : Int) = 4 ∨ Int64.ofInt (k.val : Int) = 5 ∨ Int64.ofInt (k.val : Int) = 6 ∨ Int64.ofInt (k.val : Int) = 7 ∨ Int64.ofInt (k.val : Int) = 8 ∨ Int64.ofInt (k.val : Int) = 9 ∨ Int64.ofInt (k.val : Int) = 10 ∨ Int64.ofInt (k.val : Int) = 11 ∨ Int64.ofInt (k.val : Int) = 12 ∨ Int64.ofInt (k.val : Int) = 13 ∨ Int64.ofInt (k.val : Int) = 14 ∨ Int64.ofInt (k.val : Int) = 15 ∨ Int64.ofInt (k.val : Int) = 16 ∨ Int64.ofInt (k.val : Int) = 17 ∨ Int64.ofInt (k.val : Int) = 18 ∨ Int64.ofInt (k.val : Int) = 19 ∨ Int64.ofInt (k.val : Int) = 20 ∨ Int64.ofInt (k.val : Int) = 21 ∨ Int64.ofInt (k.val : Int) = 22 ∨ Int64.ofInt (k.val : Int) = 23 ∨ Int64.ofInt (k.val : Int) = 24 ∨ Int64.ofInt (k.val : Int) = 25 ∨ Int64.ofInt (k.val : Int) = 26 ∨ Int64.ofInt (k.val : Int) = 27 ∨ Int64.ofInt (k.val : Int) = 28 ∨ Int64.ofInt (k.val : Int) = 29 ∨ Int64.ofInt (k.val : Int) = 30 ∨ Int64.ofInt (k.val : Int) = 31 := by decide
  have e1 : x = Int64.ofInt ((⟨x.toInt.toNat, by omega⟩ : Fin 32).val : Int) := by
    show x = Int64.ofInt (x.toInt.toNat : Int)
    rw [Int.toNat_of_nonneg (by omega), Int64.ofInt_toInt]
  have := hf ⟨x.toInt.toNat, by omega⟩
  rw [← e1] at this
  exact this

theorem pn0 : plainName "com/example/tersewire/tersewire/Wire" = true := by first | (simp [plainName, overriddenIn]; done) | decide +kernel
theorem d_prog_32_method_4_0 : decode prog_32_method_4_code 0 = .ok (.lload_n 0, 1) := by decide +kernel
theorem d_prog_32_method_4_1 : decode prog_32_method_4_code 1 = .ok (.lconst 0, 1) := by decide +kernel
theorem d_prog_32_method_4_2 : decode prog_32_method_4_code 2 = .ok (.lcmp, 1) := by decide +kernel
theorem d_prog_32_method_4_3 : decode prog_32_method_4_code 3 = .ok (.ifCond .lt 20, 3) := by decide +kernel
theorem d_prog_32_method_4_23 : decode prog_32_method_4_code 23 = .ok (.aconst_null, 1) := by decide +kernel
theorem d_prog_32_method_4_24 : decode prog_32_method_4_code 24 = .ok (.areturn, 1) := by decide +kernel
theorem d_prog_32_method_4_6 : decode prog_32_method_4_code 6 = .ok (.lload_n 0, 1) := by decide +kernel
theorem d_prog_32_method_4_7 : decode prog_32_method_4_code 7 = .ok (.ldc2_w 46, 3) := by decide +kernel
theorem d_prog_32_method_4_10 : decode prog_32_method_4_code 10 = .ok (.lcmp, 1) := by decide +kernel
theorem d_prog_32_method_4_11 : decode prog_32_method_4_code 11 = .ok (.ifCond .ge 12, 3) := by decide +kernel
theorem d_prog_32_method_4_14 : decode prog_32_method_4_code 14 = .ok (.getstatic 48, 3) := by decide +kernel
theorem d_prog_32_method_4_17 : decode prog_32_method_4_code 17 = .ok (.lload_n 0, 1) := by decide +kernel
theorem d_prog_32_method_4_18 : decode prog_32_method_4_code 18 = .ok (.l2i, 1) := by decide +kernel
theorem d_prog_32_method_4_19 : decode prog_32_method_4_code 19 = .ok (.aaload, 1) := by decide +kernel
theorem d_prog_32_method_4_20 : decode prog_32_method_4_code 20 = .ok (.goto 4, 3) := by decide +kernel
theorem ef_rm1 (m : MethodId) (x0 : Int64) : entryFrame m #[(.long x0)] 2 = mkF m 0 #[.val (.long x0), .second] [] := by first | (simp [entryFrame, mkF, argsToLocals, Value.category]; done) | rfl
def Q_rm1 (Z : State) (x : Int64) (aw : Addr) (ca : ClassId) (k0 : Addr) (k1 : Addr) (k5 : Addr) (k10 : Addr) (k12 : Addr) (k13 : Addr) (k14 : Addr) (k15 : Addr) (h0 : Heap) (n0 : Nat) (v : Option Value) (h : Heap) (L : List Loc) : Prop := v = some (own_kv x k0 k1 k5 k10 k12 k13 k14 k15) ∧ Fr n0 L ∧ h = h0
set_option maxRecDepth 65536 in
set_option maxHeartbeats 40000000 in
theorem rm1 (l : Launch) (Z : State) (a0 : Array Value) (hw : ∀ d ∈ tables_1, d.before a0 Z = true) (ws : List Jvm.Cond) (x : Int64) (aw : Addr) (ca : ClassId) (k0 : Addr) (k1 : Addr) (k5 : Addr) (k10 : Addr) (k12 : Addr) (k13 : Addr) (k14 : Addr) (k15 : Addr) (h0 : Heap) (n0 : Nat) (Z0 : n0 ≤ h0.size) (S_w : Sta Z h0 "com/example/tersewire/tersewire/Wire" "PRIMITIVE_KINDS" "[Lcom/example/tersewire/tersewire/ValueKind;" (.ref aw)) (V_w : Arv Z h0 aw ca (.object "com/example/tersewire/tersewire/ValueKind") (32 : Int32) [(.ref k0), (.ref k1), .null, .null, .null, (.ref k5), .null, .null, .null, .null, (.ref k10), .null, (.ref k12), (.ref k13), (.ref k14), (.ref k15), .null, .null, .null, .null, .null, .null, .null, .null, .null, .null, .null, .null, .null, .null, .null, .null] .null) :
    OCon l Z (⟨"com/example/tersewire/tersewire/Wire", "primitiveKind", "(J)Lcom/example/tersewire/tersewire/ValueKind;"⟩ : MethodName) prog_32_method_4_code 2 (some (.object "com/example/tersewire/tersewire/ValueKind")) ws ({ frames := 0, cells := 0, slots := 0, locals := 0 } : Room) #[(.long x)] h0 (Q_rm1 Z x aw ca k0 k1 k5 k10 k12 k13 k14 k15 h0 n0) := by
  refine OCon.of (plainFor_of_name pn0) ?_
  intro p e s m below meth c s₁ Φ X0 hx hby hml hown hnm hret hlk hZ e0 hΦ
  have N0 := Fr.nil n0
  refine OGo.st (fun _ kz => castTop (ef_rm1 m x) kz) ?_
  show OGo p.tables e below Φ (s₁.setTop (mkF m 0 #[.val (.long x), .second] []))
  refine OGo.st (fun _ kz => XT.lloadN X0.here hx rfl (hb hby d_prog_32_method_4_0) rfl kz) ?_
  show OGo p.tables e below Φ (s₁.setTop (mkF m 1 #[.val (.long x), .second] [(.long x)]))
  refine OGo.st (fun _ kz => XT.lconst X0.here hx rfl (hb hby d_prog_32_method_4_1) kz) ?_
  show OGo p.tables e below Φ (s₁.setTop (mkF m 2 #[.val (.long x), .second] [(.long (0 : Int64)), (.long x)]))
  refine OGo.st (fun _ kz => XT.lcmp X0.here hx rfl (hb hby d_prog_32_method_4_2) rfl kz) ?_
  show OGo p.tables e below Φ (s₁.setTop (mkF m 3 #[.val (.long x), .second] [(.int (XT.cmpL x (0 : Int64)))]))
  by_cases hc1 : x < (0 : Int64)
  · refine OGo.st (fun _ kz => XS.ifYes X0.here hx rfl (pc0 := 3) (pc' := 23) rfl (hb hby d_prog_32_method_4_3) rfl (XT.ll_lt_t hc1) (by decide) (by decide) kz) ?_
    show OGo p.tables e below Φ (s₁.setTop (mkF m 23 #[.val (.long x), .second] []))
    refine OGo.st (fun _ kz => XS.aconstNull X0.here hx rfl (hb hby d_prog_32_method_4_23) kz) ?_
    show OGo p.tables e below Φ (s₁.setTop (mkF m 24 #[.val (.long x), .second] [.null]))
    refine OGo.fin X0 hlk (v := (some .null)) (fun h => by rw [hret] at h; cases h) (by decide) (by decide) (fun fs hr => X0.areturnOut hx rfl hret rfl (hb hby d_prog_32_method_4_24) hr) fun U eU hF => hΦ _ _ _ ?_ hF
    rw [eU, e0]
    show Q_rm1 Z x aw ca k0 k1 k5 k10 k12 k13 k14 k15 h0 n0 _ _ _
    exact ⟨by rw [own_kv_neg hc1], N0, rfl⟩
  · refine OGo.st (fun _ kz => XS.ifNo X0.here hx rfl (hb hby d_prog_32_method_4_3) rfl (XT.ll_lt_f hc1) kz) ?_
    show OGo p.tables e below Φ (s₁.setTop (mkF m 6 #[.val (.long x), .second] []))
    refine OGo.st (fun _ kz => XT.lloadN X0.here hx rfl (hb hby d_prog_32_method_4_6) rfl kz) ?_
    show OGo p.tables e below Φ (s₁.setTop (mkF m 7 #[.val (.long x), .second] [(.long x)]))
    refine OGo.st (fun _ kz => X0.ldc2J hx hown (mvT hZ (ow4 hw)) rfl (hb hby d_prog_32_method_4_7) kz) ?_
    show OGo p.tables e below Φ (s₁.setTop (mkF m 10 #[.val (.long x), .second] [(.long (32 : Int64)), (.long x)]))
    refine OGo.st (fun _ kz => XT.lcmp X0.here hx rfl (hb hby d_prog_32_method_4_10) rfl kz) ?_
    show OGo p.tables e below Φ (s₁.setTop (mkF m 11 #[.val (.long x), .second] [(.int (XT.cmpL x (32 : Int64)))]))
    by_cases hc2 : x < (32 : Int64)
    · refine OGo.st (fun _ kz => XS.ifNo X0.here hx rfl (hb hby d_prog_32_method_4_11) rfl (XT.ll_ge_f hc2) kz) ?_
      show OGo p.tables e below Φ (s₁.setTop (mkF m 14 #[.val (.long x), .second] []))
      rcases own_lt32 x hc1 hc2 with hk3 | hk3 | hk3 | hk3 | hk3 | hk3 | hk3 | hk3 | hk3 | hk3 | hk3 | hk3 | hk3 | hk3 | hk3 | hk3 | hk3 | hk3 | hk3 | hk3 | hk3 | hk3 | hk3 | hk3 | hk3 | hk3 | hk3 | hk3 | hk3 | hk3 | hk3 | hk3
      · rw [hk3]
        show OGo p.tables e below Φ (s₁.setTop (mkF m 14 #[.val (.long (0 : Int64)), .second] []))
        obtain ⟨T4, X4, e4, st4⟩ := getS2 X0 hx hZ hown (host := "") (Or.inl (ow5 hw)) Via.refl e0 S_w (g := (mkF m 14 #[.val (.long (0 : Int64)), .second] [])) rfl (hb hby d_prog_32_method_4_14)
        refine OGo.st st4 ?_
        show OGo p.tables e below Φ (T4.setTop (mkF m 17 #[.val (.long (0 : Int64)), .second] [(.ref aw)]))
        refine OGo.st (fun _ kz => XT.lloadN X4.here hx rfl (hb hby d_prog_32_method_4_17) rfl kz) ?_
        show OGo p.tables e below Φ (T4.setTop (mkF m 18 #[.val (.long (0 : Int64)), .second] [(.long (0 : Int64)), (.ref aw)]))
        refine OGo.st (fun _ kz => XT.l2i X4.here hx rfl (hb hby d_prog_32_method_4_18) rfl kz) ?_
        show OGo p.tables e below Φ (T4.setTop (mkF m 19 #[.val (.long (0 : Int64)), .second] [(.int (0 : Int32)), (.ref aw)]))
        obtain ⟨cl5, Aq5, -, S5, M5, H5, -⟩ := id V_w
        have in5 : ¬ ((0 : Int32) < 0 ∨ cl5.slots.size ≤ (0 : Int32).toNatClampNeg) := inb_of S5 ⟨by decide, by decide⟩
        have at5 : cl5.slots[(0 : Int32).toNatClampNeg]? = some (.ref k0) := H5.at in5 rfl
        refine OGo.st (fun _ kz => X4.aaload hx (by rw [e4]; exact Aq5.1) (State.isArrayOf_alike hZ.alike Aq5.2.1) rfl Aq5.2.2 in5 at5 (g := (mkF m 19 #[.val (.long (0 : Int64)), .second] [(.int (0 : Int32)), (.ref aw)])) rfl rfl (hb hby d_prog_32_method_4_19) _ kz) ?_
        show OGo p.tables e below Φ (T4.setTop (mkF m 20 #[.val (.long (0 : Int64)), .second] [(.ref k0)]))
        refine OGo.st (fun _ kz => XS.goto X4.here hx rfl (pc0 := 20) (pc' := 24) rfl (hb hby d_prog_32_method_4_20) (by decide) (by decide) kz) ?_
        show OGo p.tables e below Φ (T4.setTop (mkF m 24 #[.val (.long (0 : Int64)), .second] [(.ref k0)]))
        refine OGo.fin X4 hlk (v := (some (.ref k0))) (fun h => by rw [hret] at h; cases h) (by decide) (by decide) (fun fs hr => X4.areturnOut hx rfl hret rfl (hb hby d_prog_32_method_4_24) hr) fun U eU hF => hΦ _ _ _ ?_ hF
        rw [eU, e4]
        show Q_rm1 Z x aw ca k0 k1 k5 k10 k12 k13 k14 k15 h0 n0 _ _ _
        exact ⟨by rw [hk3]; rfl, N0, rfl⟩
      · rw [hk3]
        show OGo p.tables e below Φ (s₁.setTop (mkF m 14 #[.val (.long (1 : Int64)), .second] []))
        obtain ⟨T6, X6, e6, st6⟩ := getS2 X0 hx hZ hown (host := "") (Or.inl (ow5 hw)) Via.refl e0 S_w (g := (mkF m 14 #[.val (.long (1 : Int64)), .second] [])) rfl (hb hby d_prog_32_method_4_14)
        refine OGo.st st6 ?_
        show OGo p.tables e below Φ (T6.setTop (mkF m 17 #[.val (.long (1 : Int64)), .second] [(.ref aw)]))
        refine OGo.st (fun _ kz => XT.lloadN X6.here hx rfl (hb hby d_prog_32_method_4_17) rfl kz) ?_
        show OGo p.tables e below Φ (T6.setTop (mkF m 18 #[.val (.long (1 : Int64)), .second] [(.long (1 : Int64)), (.ref aw)]))
        refine OGo.st (fun _ kz => XT.l2i X6.here hx rfl (hb hby d_prog_32_method_4_18) rfl kz) ?_
        show OGo p.tables e below Φ (T6.setTop (mkF m 19 #[.val (.long (1 : Int64)), .second] [(.int (1 : Int32)), (.ref aw)]))
        obtain ⟨cl7, Aq7, -, S7, M7, H7, -⟩ := id V_w
        have in7 : ¬ ((1 : Int32) < 0 ∨ cl7.slots.size ≤ (1 : Int32).toNatClampNeg) := inb_of S7 ⟨by decide, by decide⟩
        have at7 : cl7.slots[(1 : Int32).toNatClampNeg]? = some (.ref k1) := H7.at in7 rfl
        refine OGo.st (fun _ kz => X6.aaload hx (by rw [e6]; exact Aq7.1) (State.isArrayOf_alike hZ.alike Aq7.2.1) rfl Aq7.2.2 in7 at7 (g := (mkF m 19 #[.val (.long (1 : Int64)), .second] [(.int (1 : Int32)), (.ref aw)])) rfl rfl (hb hby d_prog_32_method_4_19) _ kz) ?_
        show OGo p.tables e below Φ (T6.setTop (mkF m 20 #[.val (.long (1 : Int64)), .second] [(.ref k1)]))
        refine OGo.st (fun _ kz => XS.goto X6.here hx rfl (pc0 := 20) (pc' := 24) rfl (hb hby d_prog_32_method_4_20) (by decide) (by decide) kz) ?_
        show OGo p.tables e below Φ (T6.setTop (mkF m 24 #[.val (.long (1 : Int64)), .second] [(.ref k1)]))
        refine OGo.fin X6 hlk (v := (some (.ref k1))) (fun h => by rw [hret] at h; cases h) (by decide) (by decide) (fun fs hr => X6.areturnOut hx rfl hret rfl (hb hby d_prog_32_method_4_24) hr) fun U eU hF => hΦ _ _ _ ?_ hF
        rw [eU, e6]
        show Q_rm1 Z x aw ca k0 k1 k5 k10 k12 k13 k14 k15 h0 n0 _ _ _
        exact ⟨by rw [hk3]; rfl, N0, rfl⟩
      · rw [hk3]
        show OGo p.tables e below Φ (s₁.setTop (mkF m 14 #[.val (.long (2 : Int64)), .second] []))
        obtain ⟨T8, X8, e8, st8⟩ := getS2 X0 hx hZ hown (host := "") (Or.inl (ow5 hw)) Via.refl e0 S_w (g := (mkF m 14 #[.val (.long (2 : Int64)), .second] [])) rfl (hb hby d_prog_32_method_4_14)
        refine OGo.st st8 ?_
        show OGo p.tables e below Φ (T8.setTop (mkF m 17 #[.val (.long (2 : Int64)), .second] [(.ref aw)]))
        refine OGo.st (fun _ kz => XT.lloadN X8.here hx rfl (hb hby d_prog_32_method_4_17) rfl kz) ?_
        show OGo p.tables e below Φ (T8.setTop (mkF m 18 #[.val (.long (2 : Int64)), .second] [(.long (2 : Int64)), (.ref aw)]))
        refine OGo.st (fun _ kz => XT.l2i X8.here hx rfl (hb hby d_prog_32_method_4_18) rfl kz) ?_
        show OGo p.tables e below Φ (T8.setTop (mkF m 19 #[.val (.long (2 : Int64)), .second] [(.int (2 : Int32)), (.ref aw)]))
        obtain ⟨cl9, Aq9, -, S9, M9, H9, -⟩ := id V_w
        have in9 : ¬ ((2 : Int32) < 0 ∨ cl9.slots.size ≤ (2 : Int32).toNatClampNeg) := inb_of S9 ⟨by decide, by decide⟩
        have at9 : cl9.slots[(2 : Int32).toNatClampNeg]? = some .null := H9.at in9 rfl
        refine OGo.st (fun _ kz => X8.aaload hx (by rw [e8]; exact Aq9.1) (State.isArrayOf_alike hZ.alike Aq9.2.1) rfl Aq9.2.2 in9 at9 (g := (mkF m 19 #[.val (.long (2 : Int64)), .second] [(.int (2 : Int32)), (.ref aw)])) rfl rfl (hb hby d_prog_32_method_4_19) _ kz) ?_
        show OGo p.tables e below Φ (T8.setTop (mkF m 20 #[.val (.long (2 : Int64)), .second] [.null]))
        refine OGo.st (fun _ kz => XS.goto X8.here hx rfl (pc0 := 20) (pc' := 24) rfl (hb hby d_prog_32_method_4_20) (by decide) (by decide) kz) ?_
        show OGo p.tables e below Φ (T8.setTop (mkF m 24 #[.val (.long (2 : Int64)), .second] [.null]))
        refine OGo.fin X8 hlk (v := (some .null)) (fun h => by rw [hret] at h; cases h) (by decide) (by decide) (fun fs hr => X8.areturnOut hx rfl hret rfl (hb hby d_prog_32_method_4_24) hr) fun U eU hF => hΦ _ _ _ ?_ hF
        rw [eU, e8]
        show Q_rm1 Z x aw ca k0 k1 k5 k10 k12 k13 k14 k15 h0 n0 _ _ _
        exact ⟨by rw [hk3]; rfl, N0, rfl⟩
      · rw [hk3]
        show OGo p.tables e below Φ (s₁.setTop (mkF m 14 #[.val (.long (3 : Int64)), .second] []))
        obtain ⟨T10, X10, e10, st10⟩ := getS2 X0 hx hZ hown (host := "") (Or.inl (ow5 hw)) Via.refl e0 S_w (g := (mkF m 14 #[.val (.long (3 : Int64)), .second] [])) rfl (hb hby d_prog_32_method_4_14)
        refine OGo.st st10 ?_
        show OGo p.tables e below Φ (T10.setTop (mkF m 17 #[.val (.long (3 : Int64)), .second] [(.ref aw)]))
        refine OGo.st (fun _ kz => XT.lloadN X10.here hx rfl (hb hby d_prog_32_method_4_17) rfl kz) ?_
        show OGo p.tables e below Φ (T10.setTop (mkF m 18 #[.val (.long (3 : Int64)), .second] [(.long (3 : Int64)), (.ref aw)]))
        refine OGo.st (fun _ kz => XT.l2i X10.here hx rfl (hb hby d_prog_32_method_4_18) rfl kz) ?_
        show OGo p.tables e below Φ (T10.setTop (mkF m 19 #[.val (.long (3 : Int64)), .second] [(.int (3 : Int32)), (.ref aw)]))
        obtain ⟨cl11, Aq11, -, S11, M11, H11, -⟩ := id V_w
        have in11 : ¬ ((3 : Int32) < 0 ∨ cl11.slots.size ≤ (3 : Int32).toNatClampNeg) := inb_of S11 ⟨by decide, by decide⟩
        have at11 : cl11.slots[(3 : Int32).toNatClampNeg]? = some .null := H11.at in11 rfl
        refine OGo.st (fun _ kz => X10.aaload hx (by rw [e10]; exact Aq11.1) (State.isArrayOf_alike hZ.alike Aq11.2.1) rfl Aq11.2.2 in11 at11 (g := (mkF m 19 #[.val (.long (3 : Int64)), .second] [(.int (3 : Int32)), (.ref aw)])) rfl rfl (hb hby d_prog_32_method_4_19) _ kz) ?_
        show OGo p.tables e below Φ (T10.setTop (mkF m 20 #[.val (.long (3 : Int64)), .second] [.null]))
        refine OGo.st (fun _ kz => XS.goto X10.here hx rfl (pc0 := 20) (pc' := 24) rfl (hb hby d_prog_32_method_4_20) (by decide) (by decide) kz) ?_
        show OGo p.tables e below Φ (T10.setTop (mkF m 24 #[.val (.long (3 : Int64)), .second] [.null]))
        refine OGo.fin X10 hlk (v := (some .null)) (fun h => by rw [hret] at h; cases h) (by decide) (by decide) (fun fs hr => X10.areturnOut hx rfl hret rfl (hb hby d_prog_32_method_4_24) hr) fun U eU hF => hΦ _ _ _ ?_ hF
        rw [eU, e10]
        show Q_rm1 Z x aw ca k0 k1 k5 k10 k12 k13 k14 k15 h0 n0 _ _ _
        exact ⟨by rw [hk3]; rfl, N0, rfl⟩
      · rw [hk3]
        show OGo p.tables e below Φ (s₁.setTop (mkF m 14 #[.val (.long (4 : Int64)), .second] []))
        obtain ⟨T12, X12, e12, st12⟩ := getS2 X0 hx hZ hown (host := "") (Or.inl (ow5 hw)) Via.refl e0 S_w (g := (mkF m 14 #[.val (.long (4 : Int64)), .second] [])) rfl (hb hby d_prog_32_method_4_14)
        refine OGo.st st12 ?_
        show OGo p.tables e below Φ (T12.setTop (mkF m 17 #[.val (.long (4 : Int64)), .second] [(.ref aw)]))
        refine OGo.st (fun _ kz => XT.lloadN X12.here hx rfl (hb hby d_prog_32_method_4_17) rfl kz) ?_
        show OGo p.tables e below Φ (T12.setTop (mkF m 18 #[.val (.long (4 : Int64)), .second] [(.long (4 : Int64)), (.ref aw)]))
        refine OGo.st (fun _ kz => XT.l2i X12.here hx rfl (hb hby d_prog_32_method_4_18) rfl kz) ?_
        show OGo p.tables e below Φ (T12.setTop (mkF m 19 #[.val (.long (4 : Int64)), .second] [(.int (4 : Int32)), (.ref aw)]))
        obtain ⟨cl13, Aq13, -, S13, M13, H13, -⟩ := id V_w
        have in13 : ¬ ((4 : Int32) < 0 ∨ cl13.slots.size ≤ (4 : Int32).toNatClampNeg) := inb_of S13 ⟨by decide, by decide⟩
        have at13 : cl13.slots[(4 : Int32).toNatClampNeg]? = some .null := H13.at in13 rfl
        refine OGo.st (fun _ kz => X12.aaload hx (by rw [e12]; exact Aq13.1) (State.isArrayOf_alike hZ.alike Aq13.2.1) rfl Aq13.2.2 in13 at13 (g := (mkF m 19 #[.val (.long (4 : Int64)), .second] [(.int (4 : Int32)), (.ref aw)])) rfl rfl (hb hby d_prog_32_method_4_19) _ kz) ?_
        show OGo p.tables e below Φ (T12.setTop (mkF m 20 #[.val (.long (4 : Int64)), .second] [.null]))
        refine OGo.st (fun _ kz => XS.goto X12.here hx rfl (pc0 := 20) (pc' := 24) rfl (hb hby d_prog_32_method_4_20) (by decide) (by decide) kz) ?_
        show OGo p.tables e below Φ (T12.setTop (mkF m 24 #[.val (.long (4 : Int64)), .second] [.null]))
        refine OGo.fin X12 hlk (v := (some .null)) (fun h => by rw [hret] at h; cases h) (by decide) (by decide) (fun fs hr => X12.areturnOut hx rfl hret rfl (hb hby d_prog_32_method_4_24) hr) fun U eU hF => hΦ _ _ _ ?_ hF
        rw [eU, e12]
        show Q_rm1 Z x aw ca k0 k1 k5 k10 k12 k13 k14 k15 h0 n0 _ _ _
        exact ⟨by rw [hk3]; rfl, N0, rfl⟩
      · rw [hk3]
        show OGo p.tables e below Φ (s₁.setTop (mkF m 14 #[.val (.long (5 : Int64)), .second] []))
        obtain ⟨T14, X14, e14, st14⟩ := getS2 X0 hx hZ hown (host := "") (Or.inl (ow5 hw)) Via.refl e0 S_w (g := (mkF m 14 #[.val (.long (5 : Int64)), .second] [])) rfl (hb hby d_prog_32_method_4_14)
        refine OGo.st st14 ?_
        show OGo p.tables e below Φ (T14.setTop (mkF m 17 #[.val (.long (5 : Int64)), .second] [(.ref aw)]))
        refine OGo.st (fun _ kz => XT.lloadN X14.here hx rfl (hb hby d_prog_32_method_4_17) rfl kz) ?_
        show OGo p.tables e below Φ (T14.setTop (mkF m 18 #[.val (.long (5 : Int64)), .second] [(.long (5 : Int64)), (.ref aw)]))
        refine OGo.st (fun _ kz => XT.l2i X14.here hx rfl (hb hby d_prog_32_method_4_18) rfl kz) ?_
        show OGo p.tables e below Φ (T14.setTop (mkF m 19 #[.val (.long (5 : Int64)), .second] [(.int (5 : Int32)), (.ref aw)]))
        obtain ⟨cl15, Aq15, -, S15, M15, H15, -⟩ := id V_w
        have in15 : ¬ ((5 : Int32) < 0 ∨ cl15.slots.size ≤ (5 : Int32).toNatClampNeg) := inb_of S15 ⟨by decide, by decide⟩
        have at15 : cl15.slots[(5 : Int32).toNatClampNeg]? = some (.ref k5) := H15.at in15 rfl
        refine OGo.st (fun _ kz => X14.aaload hx (by rw [e14]; exact Aq15.1) (State.isArrayOf_alike hZ.alike Aq15.2.1) rfl Aq15.2.2 in15 at15 (g := (mkF m 19 #[.val (.long (5 : Int64)), .second] [(.int (5 : Int32)), (.ref aw)])) rfl rfl (hb hby d_prog_32_method_4_19) _ kz) ?_
        show OGo p.tables e below Φ (T14.setTop (mkF m 20 #[.val (.long (5 : Int64)), .second] [(.ref k5)]))
        refine OGo.st (fun _ kz => XS.goto X14.here hx rfl (pc0 := 20) (pc' := 24) rfl (hb hby d_prog_32_method_4_20) (by decide) (by decide) kz) ?_
        show OGo p.tables e below Φ (T14.setTop (mkF m 24 #[.val (.long (5 : Int64)), .second] [(.ref k5)]))
        refine OGo.fin X14 hlk (v := (some (.ref k5))) (fun h => by rw [hret] at h; cases h) (by decide) (by decide) (fun fs hr => X14.areturnOut hx rfl hret rfl (hb hby d_prog_32_method_4_24) hr) fun U eU hF => hΦ _ _ _ ?_ hF
        rw [eU, e14]
        show Q_rm1 Z x aw ca k0 k1 k5 k10 k12 k13 k14 k15 h0 n0 _ _ _
        exact ⟨by rw [hk3]; rfl, N0, rfl⟩
      · rw [hk3]
        show OGo p.tables e below Φ (s₁.setTop (mkF m 14 #[.val (.long (6 : Int64)), .second] []))
        obtain ⟨T16, X16, e16, st16⟩ := getS2 X0 hx hZ hown (host := "") (Or.inl (ow5 hw)) Via.refl e0 S_w (g := (mkF m 14 #[.val (.long (6 : Int64)), .second] [])) rfl (hb hby d_prog_32_method_4_14)
        refine OGo.st st16 ?_
        show OGo p.tables e below Φ (T16.setTop (mkF m 17 #[.val (.long (6 : Int64)), .second] [(.ref aw)]))
        refine OGo.st (fun _ kz => XT.lloadN X16.here hx rfl (hb hby d_prog_32_method_4_17) rfl kz) ?_
        show OGo p.tables e below Φ (T16.setTop (mkF m 18 #[.val (.long (6 : Int64)), .second] [(.long (6 : Int64)), (.ref aw)]))
        refine OGo.st (fun _ kz => XT.l2i X16.here hx rfl (hb hby d_prog_32_method_4_18) rfl kz) ?_
        show OGo p.tables e below Φ (T16.setTop (mkF m 19 #[.val (.long (6 : Int64)), .second] [(.int (6 : Int32)), (.ref aw)]))
        obtain ⟨cl17, Aq17, -, S17, M17, H17, -⟩ := id V_w
        have in17 : ¬ ((6 : Int32) < 0 ∨ cl17.slots.size ≤ (6 : Int32).toNatClampNeg) := inb_of S17 ⟨by decide, by decide⟩
        have at17 : cl17.slots[(6 : Int32).toNatClampNeg]? = some .null := H17.at in17 rfl
        refine OGo.st (fun _ kz => X16.aaload hx (by rw [e16]; exact Aq17.1) (State.isArrayOf_alike hZ.alike Aq17.2.1) rfl Aq17.2.2 in17 at17 (g := (mkF m 19 #[.val (.long (6 : Int64)), .second] [(.int (6 : Int32)), (.ref aw)])) rfl rfl (hb hby d_prog_32_method_4_19) _ kz) ?_
        show OGo p.tables e below Φ (T16.setTop (mkF m 20 #[.val (.long (6 : Int64)), .second] [.null]))
        refine OGo.st (fun _ kz => XS.goto X16.here hx rfl (pc0 := 20) (pc' := 24) rfl (hb hby d_prog_32_method_4_20) (by decide) (by decide) kz) ?_
        show OGo p.tables e below Φ (T16.setTop (mkF m 24 #[.val (.long (6 : Int64)), .second] [.null]))
        refine OGo.fin X16 hlk (v := (some .null)) (fun h => by rw [hret] at h; cases h) (by decide) (by decide) (fun fs hr => X16.areturnOut hx rfl hret rfl (hb hby d_prog_32_method_4_24) hr) fun U eU hF => hΦ _ _ _ ?_ hF
        rw [eU, e16]
        show Q_rm1 Z x aw ca k0 k1 k5 k10 k12 k13 k14 k15 h0 n0 _ _ _
        exact ⟨by rw [hk3]; rfl, N0, rfl⟩
      · rw [hk3]
        show OGo p.tables e below Φ (s₁.setTop (mkF m 14 #[.val (.long (7 : Int64)), .second] []))
        obtain ⟨T18, X18, e18, st18⟩ := getS2 X0 hx hZ hown (host := "") (Or.inl (ow5 hw)) Via.refl e0 S_w (g := (mkF m 14 #[.val (.long (7 : Int64)), .second] [])) rfl (hb hby d_prog_32_method_4_14)
        refine OGo.st st18 ?_
        show OGo p.tables e below Φ (T18.setTop (mkF m 17 #[.val (.long (7 : Int64)), .second] [(.ref aw)]))
        refine OGo.st (fun _ kz => XT.lloadN X18.here hx rfl (hb hby d_prog_32_method_4_17) rfl kz) ?_
        show OGo p.tables e below Φ (T18.setTop (mkF m 18 #[.val (.long (7 : Int64)), .second] [(.long (7 : Int64)), (.ref aw)]))
        refine OGo.st (fun _ kz => XT.l2i X18.here hx rfl (hb hby d_prog_32_method_4_18) rfl kz) ?_
        show OGo p.tables e below Φ (T18.setTop (mkF m 19 #[.val (.long (7 : Int64)), .second] [(.int (7 : Int32)), (.ref aw)]))
        obtain ⟨cl19, Aq19, -, S19, M19, H19, -⟩ := id V_w
        have in19 : ¬ ((7 : Int32) < 0 ∨ cl19.slots.size ≤ (7 : Int32).toNatClampNeg) := inb_of S19 ⟨by decide, by decide⟩
        have at19 : cl19.slots[(7 : Int32).toNatClampNeg]? = some .null := H19.at in19 rfl
        refine OGo.st (fun _ kz => X18.aaload hx (by rw [e18]; exact Aq19.1) (State.isArrayOf_alike hZ.alike Aq19.2.1) rfl Aq19.2.2 in19 at19 (g := (mkF m 19 #[.val (.long (7 : Int64)), .second] [(.int (7 : Int32)), (.ref aw)])) rfl rfl (hb hby d_prog_32_method_4_19) _ kz) ?_
        show OGo p.tables e below Φ (T18.setTop (mkF m 20 #[.val (.long (7 : Int64)), .second] [.null]))
        refine OGo.st (fun _ kz => XS.goto X18.here hx rfl (pc0 := 20) (pc' := 24) rfl (hb hby d_prog_32_method_4_20) (by decide) (by decide) kz) ?_
        show OGo p.tables e below Φ (T18.setTop (mkF m 24 #[.val (.long (7 : Int64)), .second] [.null]))
        refine OGo.fin X18 hlk (v := (some .null)) (fun h => by rw [hret] at h; cases h) (by decide) (by decide) (fun fs hr => X18.areturnOut hx rfl hret rfl (hb hby d_prog_32_method_4_24) hr) fun U eU hF => hΦ _ _ _ ?_ hF
        rw [eU, e18]
        show Q_rm1 Z x aw ca k0 k1 k5 k10 k12 k13 k14 k15 h0 n0 _ _ _
        exact ⟨by rw [hk3]; rfl, N0, rfl⟩
      · rw [hk3]
        show OGo p.tables e below Φ (s₁.setTop (mkF m 14 #[.val (.long (8 : Int64)), .second] []))
        obtain ⟨T20, X20, e20, st20⟩ := getS2 X0 hx hZ hown (host := "") (Or.inl (ow5 hw)) Via.refl e0 S_w (g := (mkF m 14 #[.val (.long (8 : Int64)), .second] [])) rfl (hb hby d_prog_32_method_4_14)
        refine OGo.st st20 ?_
        show OGo p.tables e below Φ (T20.setTop (mkF m 17 #[.val (.long (8 : Int64)), .second] [(.ref aw)]))
        refine OGo.st (fun _ kz => XT.lloadN X20.here hx rfl (hb hby d_prog_32_method_4_17) rfl kz) ?_
        show OGo p.tables e below Φ (T20.setTop (mkF m 18 #[.val (.long (8 : Int64)), .second] [(.long (8 : Int64)), (.ref aw)]))
        refine OGo.st (fun _ kz => XT.l2i X20.here hx rfl (hb hby d_prog_32_method_4_18) rfl kz) ?_
        show OGo p.tables e below Φ (T20.setTop (mkF m 19 #[.val (.long (8 : Int64)), .second] [(.int (8 : Int32)), (.ref aw)]))
        obtain ⟨cl21, Aq21, -, S21, M21, H21, -⟩ := id V_w
        have in21 : ¬ ((8 : Int32) < 0 ∨ cl21.slots.size ≤ (8 : Int32).toNatClampNeg) := inb_of S21 ⟨by decide, by decide⟩
        have at21 : cl21.slots[(8 : Int32).toNatClampNeg]? = some .null := H21.at in21 rfl
        refine OGo.st (fun _ kz => X20.aaload hx (by rw [e20]; exact Aq21.1) (State.isArrayOf_alike hZ.alike Aq21.2.1) rfl Aq21.2.2 in21 at21 (g := (mkF m 19 #[.val (.long (8 : Int64)), .second] [(.int (8 : Int32)), (.ref aw)])) rfl rfl (hb hby d_prog_32_method_4_19) _ kz) ?_
        show OGo p.tables e below Φ (T20.setTop (mkF m 20 #[.val (.long (8 : Int64)), .second] [.null]))
        refine OGo.st (fun _ kz => XS.goto X20.here hx rfl (pc0 := 20) (pc' := 24) rfl (hb hby d_prog_32_method_4_20) (by decide) (by decide) kz) ?_
        show OGo p.tables e below Φ (T20.setTop (mkF m 24 #[.val (.long (8 : Int64)), .second] [.null]))
        refine OGo.fin X20 hlk (v := (some .null)) (fun h => by rw [hret] at h; cases h) (by decide) (by decide) (fun fs hr => X20.areturnOut hx rfl hret rfl (hb hby d_prog_32_method_4_24) hr) fun U eU hF => hΦ _ _ _ ?_ hF
        rw [eU, e20]
        show Q_rm1 Z x aw ca k0 k1 k5 k10 k12 k13 k14 k15 h0 n0 _ _ _
        exact ⟨by rw [hk3]; rfl, N0, rfl⟩
      · rw [hk3]
        show OGo p.tables e below Φ (s₁.setTop (mkF m 14 #[.val (.long (9 : Int64)), .second] []))
        obtain ⟨T22, X22, e22, st22⟩ := getS2 X0 hx hZ hown (host := "") (Or.inl (ow5 hw)) Via.refl e0 S_w (g := (mkF m 14 #[.val (.long (9 : Int64)), .second] [])) rfl (hb hby d_prog_32_method_4_14)
        refine OGo.st st22 ?_
        show OGo p.tables e below Φ (T22.setTop (mkF m 17 #[.val (.long (9 : Int64)), .second] [(.ref aw)]))
        refine OGo.st (fun _ kz => XT.lloadN X22.here hx rfl (hb hby d_prog_32_method_4_17) rfl kz) ?_
        show OGo p.tables e below Φ (T22.setTop (mkF m 18 #[.val (.long (9 : Int64)), .second] [(.long (9 : Int64)), (.ref aw)]))
        refine OGo.st (fun _ kz => XT.l2i X22.here hx rfl (hb hby d_prog_32_method_4_18) rfl kz) ?_
        show OGo p.tables e below Φ (T22.setTop (mkF m 19 #[.val (.long (9 : Int64)), .second] [(.int (9 : Int32)), (.ref aw)]))
        obtain ⟨cl23, Aq23, -, S23, M23, H23, -⟩ := id V_w
        have in23 : ¬ ((9 : Int32) < 0 ∨ cl23.slots.size ≤ (9 : Int32).toNatClampNeg) := inb_of S23 ⟨by decide, by decide⟩
        have at23 : cl23.slots[(9 : Int32).toNatClampNeg]? = some .null := H23.at in23 rfl
        refine OGo.st (fun _ kz => X22.aaload hx (by rw [e22]; exact Aq23.1) (State.isArrayOf_alike hZ.alike Aq23.2.1) rfl Aq23.2.2 in23 at23 (g := (mkF m 19 #[.val (.long (9 : Int64)), .second] [(.int (9 : Int32)), (.ref aw)])) rfl rfl (hb hby d_prog_32_method_4_19) _ kz) ?_
        show OGo p.tables e below Φ (T22.setTop (mkF m 20 #[.val (.long (9 : Int64)), .second] [.null]))
        refine OGo.st (fun _ kz => XS.goto X22.here hx rfl (pc0 := 20) (pc' := 24) rfl (hb hby d_prog_32_method_4_20) (by decide) (by decide) kz) ?_
        show OGo p.tables e below Φ (T22.setTop (mkF m 24 #[.val (.long (9 : Int64)), .second] [.null]))
        refine OGo.fin X22 hlk (v := (some .null)) (fun h => by rw [hret] at h; cases h) (by decide) (by decide) (fun fs hr => X22.areturnOut hx rfl hret rfl (hb hby d_prog_32_method_4_24) hr) fun U eU hF => hΦ _ _ _ ?_ hF
        rw [eU, e22]
        show Q_rm1 Z x aw ca k0 k1 k5 k10 k12 k13 k14 k15 h0 n0 _ _ _
        exact ⟨by rw [hk3]; rfl, N0, rfl⟩
      · rw [hk3]
        show OGo p.tables e below Φ (s₁.setTop (mkF m 14 #[.val (.long (10 : Int64)), .second] []))
        obtain ⟨T24, X24, e24, st24⟩ := getS2 X0 hx hZ hown (host := "") (Or.inl (ow5 hw)) Via.refl e0 S_w (g := (mkF m 14 #[.val (.long (10 : Int64)), .second] [])) rfl (hb hby d_prog_32_method_4_14)
        refine OGo.st st24 ?_
        show OGo p.tables e below Φ (T24.setTop (mkF m 17 #[.val (.long (10 : Int64)), .second] [(.ref aw)]))
        refine OGo.st (fun _ kz => XT.lloadN X24.here hx rfl (hb hby d_prog_32_method_4_17) rfl kz) ?_
        show OGo p.tables e below Φ (T24.setTop (mkF m 18 #[.val (.long (10 : Int64)), .second] [(.long (10 : Int64)), (.ref aw)]))
        refine OGo.st (fun _ kz => XT.l2i X24.here hx rfl (hb hby d_prog_32_method_4_18) rfl kz) ?_
        show OGo p.tables e below Φ (T24.setTop (mkF m 19 #[.val (.long (10 : Int64)), .second] [(.int (10 : Int32)), (.ref aw)]))
        obtain ⟨cl25, Aq25, -, S25, M25, H25, -⟩ := id V_w
        have in25 : ¬ ((10 : Int32) < 0 ∨ cl25.slots.size ≤ (10 : Int32).toNatClampNeg) := inb_of S25 ⟨by decide, by decide⟩
        have at25 : cl25.slots[(10 : Int32).toNatClampNeg]? = some (.ref k10) := H25.at in25 rfl
        refine OGo.st (fun _ kz => X24.aaload hx (by rw [e24]; exact Aq25.1) (State.isArrayOf_alike hZ.alike Aq25.2.1) rfl Aq25.2.2 in25 at25 (g := (mkF m 19 #[.val (.long (10 : Int64)), .second] [(.int (10 : Int32)), (.ref aw)])) rfl rfl (hb hby d_prog_32_method_4_19) _ kz) ?_
        show OGo p.tables e below Φ (T24.setTop (mkF m 20 #[.val (.long (10 : Int64)), .second] [(.ref k10)]))
        refine OGo.st (fun _ kz => XS.goto X24.here hx rfl (pc0 := 20) (pc' := 24) rfl (hb hby d_prog_32_method_4_20) (by decide) (by decide) kz) ?_
        show OGo p.tables e below Φ (T24.setTop (mkF m 24 #[.val (.long (10 : Int64)), .second] [(.ref k10)]))
        refine OGo.fin X24 hlk (v := (some (.ref k10))) (fun h => by rw [hret] at h; cases h) (by decide) (by decide) (fun fs hr => X24.areturnOut hx rfl hret rfl (hb hby d_prog_32_method_4_24) hr) fun U eU hF => hΦ _ _ _ ?_ hF
        rw [eU, e24]
        show Q_rm1 Z x aw ca k0 k1 k5 k10 k12 k13 k14 k15 h0 n0 _ _ _
        exact ⟨by rw [hk3]; rfl, N0, rfl⟩
      · rw [hk3]
        show OGo p.tables e below Φ (s₁.setTop (mkF m 14 #[.val (.long (11 : Int64)), .second] []))
        obtain ⟨T26, X26, e26, st26⟩ := getS2 X0 hx hZ hown (host := "") (Or.inl (ow5 hw)) Via.refl e0 S_w (g := (mkF m 14 #[.val (.long (11 : Int64)), .second] [])) rfl (hb hby d_prog_32_method_4_14)
        refine OGo.st st26 ?_
        show OGo p.tables e below Φ (T26.setTop (mkF m 17 #[.val (.long (11 : Int64)), .second] [(.ref aw)]))
        refine OGo.st (fun _ kz => XT.lloadN X26.here hx rfl (hb hby d_prog_32_method_4_17) rfl kz) ?_
        show OGo p.tables e below Φ (T26.setTop (mkF m 18 #[.val (.long (11 : Int64)), .second] [(.long (11 : Int64)), (.ref aw)]))
        refine OGo.st (fun _ kz => XT.l2i X26.here hx rfl (hb hby d_prog_32_method_4_18) rfl kz) ?_
        show OGo p.tables e below Φ (T26.setTop (mkF m 19 #[.val (.long (11 : Int64)), .second] [(.int (11 : Int32)), (.ref aw)]))
        obtain ⟨cl27, Aq27, -, S27, M27, H27, -⟩ := id V_w
        have in27 : ¬ ((11 : Int32) < 0 ∨ cl27.slots.size ≤ (11 : Int32).toNatClampNeg) := inb_of S27 ⟨by decide, by decide⟩
        have at27 : cl27.slots[(11 : Int32).toNatClampNeg]? = some .null := H27.at in27 rfl
        refine OGo.st (fun _ kz => X26.aaload hx (by rw [e26]; exact Aq27.1) (State.isArrayOf_alike hZ.alike Aq27.2.1) rfl Aq27.2.2 in27 at27 (g := (mkF m 19 #[.val (.long (11 : Int64)), .second] [(.int (11 : Int32)), (.ref aw)])) rfl rfl (hb hby d_prog_32_method_4_19) _ kz) ?_
        show OGo p.tables e below Φ (T26.setTop (mkF m 20 #[.val (.long (11 : Int64)), .second] [.null]))
        refine OGo.st (fun _ kz => XS.goto X26.here hx rfl (pc0 := 20) (pc' := 24) rfl (hb hby d_prog_32_method_4_20) (by decide) (by decide) kz) ?_
        show OGo p.tables e below Φ (T26.setTop (mkF m 24 #[.val (.long (11 : Int64)), .second] [.null]))
        refine OGo.fin X26 hlk (v := (some .null)) (fun h => by rw [hret] at h; cases h) (by decide) (by decide) (fun fs hr => X26.areturnOut hx rfl hret rfl (hb hby d_prog_32_method_4_24) hr) fun U eU hF => hΦ _ _ _ ?_ hF
        rw [eU, e26]
        show Q_rm1 Z x aw ca k0 k1 k5 k10 k12 k13 k14 k15 h0 n0 _ _ _
        exact ⟨by rw [hk3]; rfl, N0, rfl⟩
      · rw [hk3]
        show OGo p.tables e below Φ (s₁.setTop (mkF m 14 #[.val (.long (12 : Int64)), .second] []))
        obtain ⟨T28, X28, e28, st28⟩ := getS2 X0 hx hZ hown (host := "") (Or.inl (ow5 hw)) Via.refl e0 S_w (g := (mkF m 14 #[.val (.long (12 : Int64)), .second] [])) rfl (hb hby d_prog_32_method_4_14)
        refine OGo.st st28 ?_
        show OGo p.tables e below Φ (T28.setTop (mkF m 17 #[.val (.long (12 : Int64)), .second] [(.ref aw)]))
        refine OGo.st (fun _ kz => XT.lloadN X28.here hx rfl (hb hby d_prog_32_method_4_17) rfl kz) ?_
        show OGo p.tables e below Φ (T28.setTop (mkF m 18 #[.val (.long (12 : Int64)), .second] [(.long (12 : Int64)), (.ref aw)]))
        refine OGo.st (fun _ kz => XT.l2i X28.here hx rfl (hb hby d_prog_32_method_4_18) rfl kz) ?_
        show OGo p.tables e below Φ (T28.setTop (mkF m 19 #[.val (.long (12 : Int64)), .second] [(.int (12 : Int32)), (.ref aw)]))
        obtain ⟨cl29, Aq29, -, S29, M29, H29, -⟩ := id V_w
        have in29 : ¬ ((12 : Int32) < 0 ∨ cl29.slots.size ≤ (12 : Int32).toNatClampNeg) := inb_of S29 ⟨by decide, by decide⟩
        have at29 : cl29.slots[(12 : Int32).toNatClampNeg]? = some (.ref k12) := H29.at in29 rfl
        refine OGo.st (fun _ kz => X28.aaload hx (by rw [e28]; exact Aq29.1) (State.isArrayOf_alike hZ.alike Aq29.2.1) rfl Aq29.2.2 in29 at29 (g := (mkF m 19 #[.val (.long (12 : Int64)), .second] [(.int (12 : Int32)), (.ref aw)])) rfl rfl (hb hby d_prog_32_method_4_19) _ kz) ?_
        show OGo p.tables e below Φ (T28.setTop (mkF m 20 #[.val (.long (12 : Int64)), .second] [(.ref k12)]))
        refine OGo.st (fun _ kz => XS.goto X28.here hx rfl (pc0 := 20) (pc' := 24) rfl (hb hby d_prog_32_method_4_20) (by decide) (by decide) kz) ?_
        show OGo p.tables e below Φ (T28.setTop (mkF m 24 #[.val (.long (12 : Int64)), .second] [(.ref k12)]))
        refine OGo.fin X28 hlk (v := (some (.ref k12))) (fun h => by rw [hret] at h; cases h) (by decide) (by decide) (fun fs hr => X28.areturnOut hx rfl hret rfl (hb hby d_prog_32_method_4_24) hr) fun U eU hF => hΦ _ _ _ ?_ hF
        rw [eU, e28]
        show Q_rm1 Z x aw ca k0 k1 k5 k10 k12 k13 k14 k15 h0 n0 _ _ _
        exact ⟨by rw [hk3]; rfl, N0, rfl⟩
      · rw [hk3]
        show OGo p.tables e below Φ (s₁.setTop (mkF m 14 #[.val (.long (13 : Int64)), .second] []))
        obtain ⟨T30, X30, e30, st30⟩ := getS2 X0 hx hZ hown (host := "") (Or.inl (ow5 hw)) Via.refl e0 S_w (g := (mkF m 14 #[.val (.long (13 : Int64)), .second] [])) rfl (hb hby d_prog_32_method_4_14)
        refine OGo.st st30 ?_
        show OGo p.tables e below Φ (T30.setTop (mkF m 17 #[.val (.long (13 : Int64)), .second] [(.ref aw)]))
        refine OGo.st (fun _ kz => XT.lloadN X30.here hx rfl (hb hby d_prog_32_method_4_17) rfl kz) ?_
        show OGo p.tables e below Φ (T30.setTop (mkF m 18 #[.val (.long (13 : Int64)), .second] [(.long (13 : Int64)), (.ref aw)]))
        refine OGo.st (fun _ kz => XT.l2i X30.here hx rfl (hb hby d_prog_32_method_4_18) rfl kz) ?_
        show OGo p.tables e below Φ (T30.setTop (mkF m 19 #[.val (.long (13 : Int64)), .second] [(.int (13 : Int32)), (.ref aw)]))
        obtain ⟨cl31, Aq31, -, S31, M31, H31, -⟩ := id V_w
        have in31 : ¬ ((13 : Int32) < 0 ∨ cl31.slots.size ≤ (13 : Int32).toNatClampNeg) := inb_of S31 ⟨by decide, by decide⟩
        have at31 : cl31.slots[(13 : Int32).toNatClampNeg]? = some (.ref k13) := H31.at in31 rfl
        refine OGo.st (fun _ kz => X30.aaload hx (by rw [e30]; exact Aq31.1) (State.isArrayOf_alike hZ.alike Aq31.2.1) rfl Aq31.2.2 in31 at31 (g := (mkF m 19 #[.val (.long (13 : Int64)), .second] [(.int (13 : Int32)), (.ref aw)])) rfl rfl (hb hby d_prog_32_method_4_19) _ kz) ?_
        show OGo p.tables e below Φ (T30.setTop (mkF m 20 #[.val (.long (13 : Int64)), .second] [(.ref k13)]))
        refine OGo.st (fun _ kz => XS.goto X30.here hx rfl (pc0 := 20) (pc' := 24) rfl (hb hby d_prog_32_method_4_20) (by decide) (by decide) kz) ?_
        show OGo p.tables e below Φ (T30.setTop (mkF m 24 #[.val (.long (13 : Int64)), .second] [(.ref k13)]))
        refine OGo.fin X30 hlk (v := (some (.ref k13))) (fun h => by rw [hret] at h; cases h) (by decide) (by decide) (fun fs hr => X30.areturnOut hx rfl hret rfl (hb hby d_prog_32_method_4_24) hr) fun U eU hF => hΦ _ _ _ ?_ hF
        rw [eU, e30]
        show Q_rm1 Z x aw ca k0 k1 k5 k10 k12 k13 k14 k15 h0 n0 _ _ _
        exact ⟨by rw [hk3]; rfl, N0, rfl⟩
      · rw [hk3]
        show OGo p.tables e below Φ (s₁.setTop (mkF m 14 #[.val (.long (14 : Int64)), .second] []))
        obtain ⟨T32, X32, e32, st32⟩ := getS2 X0 hx hZ hown (host := "") (Or.inl (ow5 hw)) Via.refl e0 S_w (g := (mkF m 14 #[.val (.long (14 : Int64)), .second] [])) rfl (hb hby d_prog_32_method_4_14)
        refine OGo.st st32 ?_
        show OGo p.tables e below Φ (T32.setTop (mkF m 17 #[.val (.long (14 : Int64)), .second] [(.ref aw)]))
        refine OGo.st (fun _ kz => XT.lloadN X32.here hx rfl (hb hby d_prog_32_method_4_17) rfl kz) ?_
        show OGo p.tables e below Φ (T32.setTop (mkF m 18 #[.val (.long (14 : Int64)), .second] [(.long (14 : Int64)), (.ref aw)]))
        refine OGo.st (fun _ kz => XT.l2i X32.here hx rfl (hb hby d_prog_32_method_4_18) rfl kz) ?_
        show OGo p.tables e below Φ (T32.setTop (mkF m 19 #[.val (.long (14 : Int64)), .second] [(.int (14 : Int32)), (.ref aw)]))
        obtain ⟨cl33, Aq33, -, S33, M33, H33, -⟩ := id V_w
        have in33 : ¬ ((14 : Int32) < 0 ∨ cl33.slots.size ≤ (14 : Int32).toNatClampNeg) := inb_of S33 ⟨by decide, by decide⟩
        have at33 : cl33.slots[(14 : Int32).toNatClampNeg]? = some (.ref k14) := H33.at in33 rfl
        refine OGo.st (fun _ kz => X32.aaload hx (by rw [e32]; exact Aq33.1) (State.isArrayOf_alike hZ.alike Aq33.2.1) rfl Aq33.2.2 in33 at33 (g := (mkF m 19 #[.val (.long (14 : Int64)), .second] [(.int (14 : Int32)), (.ref aw)])) rfl rfl (hb hby d_prog_32_method_4_19) _ kz) ?_
        show OGo p.tables e below Φ (T32.setTop (mkF m 20 #[.val (.long (14 : Int64)), .second] [(.ref k14)]))
        refine OGo.st (fun _ kz => XS.goto X32.here hx rfl (pc0 := 20) (pc' := 24) rfl (hb hby d_prog_32_method_4_20) (by decide) (by decide) kz) ?_
        show OGo p.tables e below Φ (T32.setTop (mkF m 24 #[.val (.long (14 : Int64)), .second] [(.ref k14)]))
        refine OGo.fin X32 hlk (v := (some (.ref k14))) (fun h => by rw [hret] at h; cases h) (by decide) (by decide) (fun fs hr => X32.areturnOut hx rfl hret rfl (hb hby d_prog_32_method_4_24) hr) fun U eU hF => hΦ _ _ _ ?_ hF
        rw [eU, e32]
        show Q_rm1 Z x aw ca k0 k1 k5 k10 k12 k13 k14 k15 h0 n0 _ _ _
        exact ⟨by rw [hk3]; rfl, N0, rfl⟩
      · rw [hk3]
        show OGo p.tables e below Φ (s₁.setTop (mkF m 14 #[.val (.long (15 : Int64)), .second] []))
        obtain ⟨T34, X34, e34, st34⟩ := getS2 X0 hx hZ hown (host := "") (Or.inl (ow5 hw)) Via.refl e0 S_w (g := (mkF m 14 #[.val (.long (15 : Int64)), .second] [])) rfl (hb hby d_prog_32_method_4_14)
        refine OGo.st st34 ?_
        show OGo p.tables e below Φ (T34.setTop (mkF m 17 #[.val (.long (15 : Int64)), .second] [(.ref aw)]))
        refine OGo.st (fun _ kz => XT.lloadN X34.here hx rfl (hb hby d_prog_32_method_4_17) rfl kz) ?_
        show OGo p.tables e below Φ (T34.setTop (mkF m 18 #[.val (.long (15 : Int64)), .second] [(.long (15 : Int64)), (.ref aw)]))
        refine OGo.st (fun _ kz => XT.l2i X34.here hx rfl (hb hby d_prog_32_method_4_18) rfl kz) ?_
        show OGo p.tables e below Φ (T34.setTop (mkF m 19 #[.val (.long (15 : Int64)), .second] [(.int (15 : Int32)), (.ref aw)]))
        obtain ⟨cl35, Aq35, -, S35, M35, H35, -⟩ := id V_w
        have in35 : ¬ ((15 : Int32) < 0 ∨ cl35.slots.size ≤ (15 : Int32).toNatClampNeg) := inb_of S35 ⟨by decide, by decide⟩
        have at35 : cl35.slots[(15 : Int32).toNatClampNeg]? = some (.ref k15) := H35.at in35 rfl
        refine OGo.st (fun _ kz => X34.aaload hx (by rw [e34]; exact Aq35.1) (State.isArrayOf_alike hZ.alike Aq35.2.1) rfl Aq35.2.2 in35 at35 (g := (mkF m 19 #[.val (.long (15 : Int64)), .second] [(.int (15 : Int32)), (.ref aw)])) rfl rfl (hb hby d_prog_32_method_4_19) _ kz) ?_
        show OGo p.tables e below Φ (T34.setTop (mkF m 20 #[.val (.long (15 : Int64)), .second] [(.ref k15)]))
        refine OGo.st (fun _ kz => XS.goto X34.here hx rfl (pc0 := 20) (pc' := 24) rfl (hb hby d_prog_32_method_4_20) (by decide) (by decide) kz) ?_
        show OGo p.tables e below Φ (T34.setTop (mkF m 24 #[.val (.long (15 : Int64)), .second] [(.ref k15)]))
        refine OGo.fin X34 hlk (v := (some (.ref k15))) (fun h => by rw [hret] at h; cases h) (by decide) (by decide) (fun fs hr => X34.areturnOut hx rfl hret rfl (hb hby d_prog_32_method_4_24) hr) fun U eU hF => hΦ _ _ _ ?_ hF
        rw [eU, e34]
        show Q_rm1 Z x aw ca k0 k1 k5 k10 k12 k13 k14 k15 h0 n0 _ _ _
        exact ⟨by rw [hk3]; rfl, N0, rfl⟩
      · rw [hk3]
        show OGo p.tables e below Φ (s₁.setTop (mkF m 14 #[.val (.long (16 : Int64)), .second] []))
        obtain ⟨T36, X36, e36, st36⟩ := getS2 X0 hx hZ hown (host := "") (Or.inl (ow5 hw)) Via.refl e0 S_w (g := (mkF m 14 #[.val (.long (16 : Int64)), .second] [])) rfl (hb hby d_prog_32_method_4_14)
        refine OGo.st st36 ?_
        show OGo p.tables e below Φ (T36.setTop (mkF m 17 #[.val (.long (16 : Int64)), .second] [(.ref aw)]))
        refine OGo.st (fun _ kz => XT.lloadN X36.here hx rfl (hb hby d_prog_32_method_4_17) rfl kz) ?_
        show OGo p.tables e below Φ (T36.setTop (mkF m 18 #[.val (.long (16 : Int64)), .second] [(.long (16 : Int64)), (.ref aw)]))
        refine OGo.st (fun _ kz => XT.l2i X36.here hx rfl (hb hby d_prog_32_method_4_18) rfl kz) ?_
        show OGo p.tables e below Φ (T36.setTop (mkF m 19 #[.val (.long (16 : Int64)), .second] [(.int (16 : Int32)), (.ref aw)]))
        obtain ⟨cl37, Aq37, -, S37, M37, H37, -⟩ := id V_w
        have in37 : ¬ ((16 : Int32) < 0 ∨ cl37.slots.size ≤ (16 : Int32).toNatClampNeg) := inb_of S37 ⟨by decide, by decide⟩
        have at37 : cl37.slots[(16 : Int32).toNatClampNeg]? = some .null := H37.at in37 rfl
        refine OGo.st (fun _ kz => X36.aaload hx (by rw [e36]; exact Aq37.1) (State.isArrayOf_alike hZ.alike Aq37.2.1) rfl Aq37.2.2 in37 at37 (g := (mkF m 19 #[.val (.long (16 : Int64)), .second] [(.int (16 : Int32)), (.ref aw)])) rfl rfl (hb hby d_prog_32_method_4_19) _ kz) ?_
        show OGo p.tables e below Φ (T36.setTop (mkF m 20 #[.val (.long (16 : Int64)), .second] [.null]))
        refine OGo.st (fun _ kz => XS.goto X36.here hx rfl (pc0 := 20) (pc' := 24) rfl (hb hby d_prog_32_method_4_20) (by decide) (by decide) kz) ?_
        show OGo p.tables e below Φ (T36.setTop (mkF m 24 #[.val (.long (16 : Int64)), .second] [.null]))
        refine OGo.fin X36 hlk (v := (some .null)) (fun h => by rw [hret] at h; cases h) (by decide) (by decide) (fun fs hr => X36.areturnOut hx rfl hret rfl (hb hby d_prog_32_method_4_24) hr) fun U eU hF => hΦ _ _ _ ?_ hF
        rw [eU, e36]
        show Q_rm1 Z x aw ca k0 k1 k5 k10 k12 k13 k14 k15 h0 n0 _ _ _
        exact ⟨by rw [hk3]; rfl, N0, rfl⟩
      · rw [hk3]
        show OGo p.tables e below Φ (s₁.setTop (mkF m 14 #[.val (.long (17 : Int64)), .second] []))
        obtain ⟨T38, X38, e38, st38⟩ := getS2 X0 hx hZ hown (host := "") (Or.inl (ow5 hw)) Via.refl e0 S_w (g := (mkF m 14 #[.val (.long (17 : Int64)), .second] [])) rfl (hb hby d_prog_32_method_4_14)
        refine OGo.st st38 ?_
        show OGo p.tables e below Φ (T38.setTop (mkF m 17 #[.val (.long (17 : Int64)), .second] [(.ref aw)]))
        refine OGo.st (fun _ kz => XT.lloadN X38.here hx rfl (hb hby d_prog_32_method_4_17) rfl kz) ?_
        show OGo p.tables e below Φ (T38.setTop (mkF m 18 #[.val (.long (17 : Int64)), .second] [(.long (17 : Int64)), (.ref aw)]))
        refine OGo.st (fun _ kz => XT.l2i X38.here hx rfl (hb hby d_prog_32_method_4_18) rfl kz) ?_
        show OGo p.tables e below Φ (T38.setTop (mkF m 19 #[.val (.long (17 : Int64)), .second] [(.int (17 : Int32)), (.ref aw)]))
        obtain ⟨cl39, Aq39, -, S39, M39, H39, -⟩ := id V_w
        have in39 : ¬ ((17 : Int32) < 0 ∨ cl39.slots.size ≤ (17 : Int32).toNatClampNeg) := inb_of S39 ⟨by decide, by decide⟩
        have at39 : cl39.slots[(17 : Int32).toNatClampNeg]? = some .null := H39.at in39 rfl
        refine OGo.st (fun _ kz => X38.aaload hx (by rw [e38]; exact Aq39.1) (State.isArrayOf_alike hZ.alike Aq39.2.1) rfl Aq39.2.2 in39 at39 (g := (mkF m 19 #[.val (.long (17 : Int64)), .second] [(.int (17 : Int32)), (.ref aw)])) rfl rfl (hb hby d_prog_32_method_4_19) _ kz) ?_
        show OGo p.tables e below Φ (T38.setTop (mkF m 20 #[.val (.long (17 : Int64)), .second] [.null]))
        refine OGo.st (fun _ kz => XS.goto X38.here hx rfl (pc0 := 20) (pc' := 24) rfl (hb hby d_prog_32_method_4_20) (by decide) (by decide) kz) ?_
        show OGo p.tables e below Φ (T38.setTop (mkF m 24 #[.val (.long (17 : Int64)), .second] [.null]))
        refine OGo.fin X38 hlk (v := (some .null)) (fun h => by rw [hret] at h; cases h) (by decide) (by decide) (fun fs hr => X38.areturnOut hx rfl hret rfl (hb hby d_prog_32_method_4_24) hr) fun U eU hF => hΦ _ _ _ ?_ hF
        rw [eU, e38]
        show Q_rm1 Z x aw ca k0 k1 k5 k10 k12 k13 k14 k15 h0 n0 _ _ _
        exact ⟨by rw [hk3]; rfl, N0, rfl⟩
      · rw [hk3]
        show OGo p.tables e below Φ (s₁.setTop (mkF m 14 #[.val (.long (18 : Int64)), .second] []))
        obtain ⟨T40, X40, e40, st40⟩ := getS2 X0 hx hZ hown (host := "") (Or.inl (ow5 hw)) Via.refl e0 S_w (g := (mkF m 14 #[.val (.long (18 : Int64)), .second] [])) rfl (hb hby d_prog_32_method_4_14)
        refine OGo.st st40 ?_
        show OGo p.tables e below Φ (T40.setTop (mkF m 17 #[.val (.long (18 : Int64)), .second] [(.ref aw)]))
        refine OGo.st (fun _ kz => XT.lloadN X40.here hx rfl (hb hby d_prog_32_method_4_17) rfl kz) ?_
        show OGo p.tables e below Φ (T40.setTop (mkF m 18 #[.val (.long (18 : Int64)), .second] [(.long (18 : Int64)), (.ref aw)]))
        refine OGo.st (fun _ kz => XT.l2i X40.here hx rfl (hb hby d_prog_32_method_4_18) rfl kz) ?_
        show OGo p.tables e below Φ (T40.setTop (mkF m 19 #[.val (.long (18 : Int64)), .second] [(.int (18 : Int32)), (.ref aw)]))
        obtain ⟨cl41, Aq41, -, S41, M41, H41, -⟩ := id V_w
        have in41 : ¬ ((18 : Int32) < 0 ∨ cl41.slots.size ≤ (18 : Int32).toNatClampNeg) := inb_of S41 ⟨by decide, by decide⟩
        have at41 : cl41.slots[(18 : Int32).toNatClampNeg]? = some .null := H41.at in41 rfl
        refine OGo.st (fun _ kz => X40.aaload hx (by rw [e40]; exact Aq41.1) (State.isArrayOf_alike hZ.alike Aq41.2.1) rfl Aq41.2.2 in41 at41 (g := (mkF m 19 #[.val (.long (18 : Int64)), .second] [(.int (18 : Int32)), (.ref aw)])) rfl rfl (hb hby d_prog_32_method_4_19) _ kz) ?_
        show OGo p.tables e below Φ (T40.setTop (mkF m 20 #[.val (.long (18 : Int64)), .second] [.null]))
        refine OGo.st (fun _ kz => XS.goto X40.here hx rfl (pc0 := 20) (pc' := 24) rfl (hb hby d_prog_32_method_4_20) (by decide) (by decide) kz) ?_
        show OGo p.tables e below Φ (T40.setTop (mkF m 24 #[.val (.long (18 : Int64)), .second] [.null]))
        refine OGo.fin X40 hlk (v := (some .null)) (fun h => by rw [hret] at h; cases h) (by decide) (by decide) (fun fs hr => X40.areturnOut hx rfl hret rfl (hb hby d_prog_32_method_4_24) hr) fun U eU hF => hΦ _ _ _ ?_ hF
        rw [eU, e40]
        show Q_rm1 Z x aw ca k0 k1 k5 k10 k12 k13 k14 k15 h0 n0 _ _ _
        exact ⟨by rw [hk3]; rfl, N0, rfl⟩
      · rw [hk3]
        show OGo p.tables e below Φ (s₁.setTop (mkF m 14 #[.val (.long (19 : Int64)), .second] []))
        obtain ⟨T42, X42, e42, st42⟩ := getS2 X0 hx hZ hown (host := "") (Or.inl (ow5 hw)) Via.refl e0 S_w (g := (mkF m 14 #[.val (.long (19 : Int64)), .second] [])) rfl (hb hby d_prog_32_method_4_14)
        refine OGo.st st42 ?_
        show OGo p.tables e below Φ (T42.setTop (mkF m 17 #[.val (.long (19 : Int64)), .second] [(.ref aw)]))
        refine OGo.st (fun _ kz => XT.lloadN X42.here hx rfl (hb hby d_prog_32_method_4_17) rfl kz) ?_
        show OGo p.tables e below Φ (T42.setTop (mkF m 18 #[.val (.long (19 : Int64)), .second] [(.long (19 : Int64)), (.ref aw)]))
        refine OGo.st (fun _ kz => XT.l2i X42.here hx rfl (hb hby d_prog_32_method_4_18) rfl kz) ?_
        show OGo p.tables e below Φ (T42.setTop (mkF m 19 #[.val (.long (19 : Int64)), .second] [(.int (19 : Int32)), (.ref aw)]))
        obtain ⟨cl43, Aq43, -, S43, M43, H43, -⟩ := id V_w
        have in43 : ¬ ((19 : Int32) < 0 ∨ cl43.slots.size ≤ (19 : Int32).toNatClampNeg) := inb_of S43 ⟨by decide, by decide⟩
        have at43 : cl43.slots[(19 : Int32).toNatClampNeg]? = some .null := H43.at in43 rfl
        refine OGo.st (fun _ kz => X42.aaload hx (by rw [e42]; exact Aq43.1) (State.isArrayOf_alike hZ.alike Aq43.2.1) rfl Aq43.2.2 in43 at43 (g := (mkF m 19 #[.val (.long (19 : Int64)), .second] [(.int (19 : Int32)), (.ref aw)])) rfl rfl (hb hby d_prog_32_method_4_19) _ kz) ?_
        show OGo p.tables e below Φ (T42.setTop (mkF m 20 #[.val (.long (19 : Int64)), .second] [.null]))
        refine OGo.st (fun _ kz => XS.goto X42.here hx rfl (pc0 := 20) (pc' := 24) rfl (hb hby d_prog_32_method_4_20) (by decide) (by decide) kz) ?_
        show OGo p.tables e below Φ (T42.setTop (mkF m 24 #[.val (.long (19 : Int64)), .second] [.null]))
        refine OGo.fin X42 hlk (v := (some .null)) (fun h => by rw [hret] at h; cases h) (by decide) (by decide) (fun fs hr => X42.areturnOut hx rfl hret rfl (hb hby d_prog_32_method_4_24) hr) fun U eU hF => hΦ _ _ _ ?_ hF
        rw [eU, e42]
        show Q_rm1 Z x aw ca k0 k1 k5 k10 k12 k13 k14 k15 h0 n0 _ _ _
        exact ⟨by rw [hk3]; rfl, N0, rfl⟩
      · rw [hk3]
        show OGo p.tables e below Φ (s₁.setTop (mkF m 14 #[.val (.long (20 : Int64)), .second] []))
        obtain ⟨T44, X44, e44, st44⟩ := getS2 X0 hx hZ hown (host := "") (Or.inl (ow5 hw)) Via.refl e0 S_w (g := (mkF m 14 #[.val (.long (20 : Int64)), .second] [])) rfl (hb hby d_prog_32_method_4_14)
        refine OGo.st st44 ?_
        show OGo p.tables e below Φ (T44.setTop (mkF m 17 #[.val (.long (20 : Int64)), .second] [(.ref aw)]))
        refine OGo.st (fun _ kz => XT.lloadN X44.here hx rfl (hb hby d_prog_32_method_4_17) rfl kz) ?_
        show OGo p.tables e below Φ (T44.setTop (mkF m 18 #[.val (.long (20 : Int64)), .second] [(.long (20 : Int64)), (.ref aw)]))
        refine OGo.st (fun _ kz => XT.l2i X44.here hx rfl (hb hby d_prog_32_method_4_18) rfl kz) ?_
        show OGo p.tables e below Φ (T44.setTop (mkF m 19 #[.val (.long (20 : Int64)), .second] [(.int (20 : Int32)), (.ref aw)]))
        obtain ⟨cl45, Aq45, -, S45, M45, H45, -⟩ := id V_w
        have in45 : ¬ ((20 : Int32) < 0 ∨ cl45.slots.size ≤ (20 : Int32).toNatClampNeg) := inb_of S45 ⟨by decide, by decide⟩
        have at45 : cl45.slots[(20 : Int32).toNatClampNeg]? = some .null := H45.at in45 rfl
        refine OGo.st (fun _ kz => X44.aaload hx (by rw [e44]; exact Aq45.1) (State.isArrayOf_alike hZ.alike Aq45.2.1) rfl Aq45.2.2 in45 at45 (g := (mkF m 19 #[.val (.long (20 : Int64)), .second] [(.int (20 : Int32)), (.ref aw)])) rfl rfl (hb hby d_prog_32_method_4_19) _ kz) ?_
        show OGo p.tables e below Φ (T44.setTop (mkF m 20 #[.val (.long (20 : Int64)), .second] [.null]))
        refine OGo.st (fun _ kz => XS.goto X44.here hx rfl (pc0 := 20) (pc' := 24) rfl (hb hby d_prog_32_method_4_20) (by decide) (by decide) kz) ?_
        show OGo p.tables e below Φ (T44.setTop (mkF m 24 #[.val (.long (20 : Int64)), .second] [.null]))
        refine OGo.fin X44 hlk (v := (some .null)) (fun h => by rw [hret] at h; cases h) (by decide) (by decide) (fun fs hr => X44.areturnOut hx rfl hret rfl (hb hby d_prog_32_method_4_24) hr) fun U eU hF => hΦ _ _ _ ?_ hF
        rw [eU, e44]
        show Q_rm1 Z x aw ca k0 k1 k5 k10 k12 k13 k14 k15 h0 n0 _ _ _
        exact ⟨by rw [hk3]; rfl, N0, rfl⟩
      · rw [hk3]
        show OGo p.tables e below Φ (s₁.setTop (mkF m 14 #[.val (.long (21 : Int64)), .second] []))
        obtain ⟨T46, X46, e46, st46⟩ := getS2 X0 hx hZ hown (host := "") (Or.inl (ow5 hw)) Via.refl e0 S_w (g := (mkF m 14 #[.val (.long (21 : Int64)), .second] [])) rfl (hb hby d_prog_32_method_4_14)
        refine OGo.st st46 ?_
        show OGo p.tables e below Φ (T46.setTop (mkF m 17 #[.val (.long (21 : Int64)), .second] [(.ref aw)]))
        refine OGo.st (fun _ kz => XT.lloadN X46.here hx rfl (hb hby d_prog_32_method_4_17) rfl kz) ?_
        show OGo p.tables e below Φ (T46.setTop (mkF m 18 #[.val (.long (21 : Int64)), .second] [(.long (21 : Int64)), (.ref aw)]))
        refine OGo.st (fun _ kz => XT.l2i X46.here hx rfl (hb hby d_prog_32_method_4_18) rfl kz) ?_
        show OGo p.tables e below Φ (T46.setTop (mkF m 19 #[.val (.long (21 : Int64)), .second] [(.int (21 : Int32)), (.ref aw)]))
        obtain ⟨cl47, Aq47, -, S47, M47, H47, -⟩ := id V_w
        have in47 : ¬ ((21 : Int32) < 0 ∨ cl47.slots.size ≤ (21 : Int32).toNatClampNeg) := inb_of S47 ⟨by decide, by decide⟩
        have at47 : cl47.slots[(21 : Int32).toNatClampNeg]? = some .null := H47.at in47 rfl
        refine OGo.st (fun _ kz => X46.aaload hx (by rw [e46]; exact Aq47.1) (State.isArrayOf_alike hZ.alike Aq47.2.1) rfl Aq47.2.2 in47 at47 (g := (mkF m 19 #[.val (.long (21 : Int64)), .second] [(.int (21 : Int32)), (.ref aw)])) rfl rfl (hb hby d_prog_32_method_4_19) _ kz) ?_
        show OGo p.tables e below Φ (T46.setTop (mkF m 20 #[.val (.long (21 : Int64)), .second] [.null]))
        refine OGo.st (fun _ kz => XS.goto X46.here hx rfl (pc0 := 20) (pc' := 24) rfl (hb hby d_prog_32_method_4_20) (by decide) (by decide) kz) ?_
        show OGo p.tables e below Φ (T46.setTop (mkF m 24 #[.val (.long (21 : Int64)), .second] [.null]))
        refine OGo.fin X46 hlk (v := (some .null)) (fun h => by rw [hret] at h; cases h) (by decide) (by decide) (fun fs hr => X46.areturnOut hx rfl hret rfl (hb hby d_prog_32_method_4_24) hr) fun U eU hF => hΦ _ _ _ ?_ hF
        rw [eU, e46]
        show Q_rm1 Z x aw ca k0 k1 k5 k10 k12 k13 k14 k15 h0 n0 _ _ _
        exact ⟨by rw [hk3]; rfl, N0, rfl⟩
      · rw [hk3]
        show OGo p.tables e below Φ (s₁.setTop (mkF m 14 #[.val (.long (22 : Int64)), .second] []))
        obtain ⟨T48, X48, e48, st48⟩ := getS2 X0 hx hZ hown (host := "") (Or.inl (ow5 hw)) Via.refl e0 S_w (g := (mkF m 14 #[.val (.long (22 : Int64)), .second] [])) rfl (hb hby d_prog_32_method_4_14)
        refine OGo.st st48 ?_
        show OGo p.tables e below Φ (T48.setTop (mkF m 17 #[.val (.long (22 : Int64)), .second] [(.ref aw)]))
        refine OGo.st (fun _ kz => XT.lloadN X48.here hx rfl (hb hby d_prog_32_method_4_17) rfl kz) ?_
        show OGo p.tables e below Φ (T48.setTop (mkF m 18 #[.val (.long (22 : Int64)), .second] [(.long (22 : Int64)), (.ref aw)]))
        refine OGo.st (fun _ kz => XT.l2i X48.here hx rfl (hb hby d_prog_32_method_4_18) rfl kz) ?_
        show OGo p.tables e below Φ (T48.setTop (mkF m 19 #[.val (.long (22 : Int64)), .second] [(.int (22 : Int32)), (.ref aw)]))
        obtain ⟨cl49, Aq49, -, S49, M49, H49, -⟩ := id V_w
        have in49 : ¬ ((22 : Int32) < 0 ∨ cl49.slots.size ≤ (22 : Int32).toNatClampNeg) := inb_of S49 ⟨by decide, by decide⟩
        have at49 : cl49.slots[(22 : Int32).toNatClampNeg]? = some .null := H49.at in49 rfl
        refine OGo.st (fun _ kz => X48.aaload hx (by rw [e48]; exact Aq49.1) (State.isArrayOf_alike hZ.alike Aq49.2.1) rfl Aq49.2.2 in49 at49 (g := (mkF m 19 #[.val (.long (22 : Int64)), .second] [(.int (22 : Int32)), (.ref aw)])) rfl rfl (hb hby d_prog_32_method_4_19) _ kz) ?_
        show OGo p.tables e below Φ (T48.setTop (mkF m 20 #[.val (.long (22 : Int64)), .second] [.null]))
        refine OGo.st (fun _ kz => XS.goto X48.here hx rfl (pc0 := 20) (pc' := 24) rfl (hb hby d_prog_32_method_4_20) (by decide) (by decide) kz) ?_
        show OGo p.tables e below Φ (T48.setTop (mkF m 24 #[.val (.long (22 : Int64)), .second] [.null]))
        refine OGo.fin X48 hlk (v := (some .null)) (fun h => by rw [hret] at h; cases h) (by decide) (by decide) (fun fs hr => X48.areturnOut hx rfl hret rfl (hb hby d_prog_32_method_4_24) hr) fun U eU hF => hΦ _ _ _ ?_ hF
        rw [eU, e48]
        show Q_rm1 Z x aw ca k0 k1 k5 k10 k12 k13 k14 k15 h0 n0 _ _ _
        exact ⟨by rw [hk3]; rfl, N0, rfl⟩
      · rw [hk3]
        show OGo p.tables e below Φ (s₁.setTop (mkF m 14 #[.val (.long (23 : Int64)), .second] []))
        obtain ⟨T50, X50, e50, st50⟩ := getS2 X0 hx hZ hown (host := "") (Or.inl (ow5 hw)) Via.refl e0 S_w (g := (mkF m 14 #[.val (.long (23 : Int64)), .second] [])) rfl (hb hby d_prog_32_method_4_14)
        refine OGo.st st50 ?_
        show OGo p.tables e below Φ (T50.setTop (mkF m 17 #[.val (.long (23 : Int64)), .second] [(.ref aw)]))
        refine OGo.st (fun _ kz => XT.lloadN X50.here hx rfl (hb hby d_prog_32_method_4_17) rfl kz) ?_
        show OGo p.tables e below Φ (T50.setTop (mkF m 18 #[.val (.long (23 : Int64)), .second] [(.long (23 : Int64)), (.ref aw)]))
        refine OGo.st (fun _ kz => XT.l2i X50.here hx rfl (hb hby d_prog_32_method_4_18) rfl kz) ?_
        show OGo p.tables e below Φ (T50.setTop (mkF m 19 #[.val (.long (23 : Int64)), .second] [(.int (23 : Int32)), (.ref aw)]))
        obtain ⟨cl51, Aq51, -, S51, M51, H51, -⟩ := id V_w
        have in51 : ¬ ((23 : Int32) < 0 ∨ cl51.slots.size ≤ (23 : Int32).toNatClampNeg) := inb_of S51 ⟨by decide, by decide⟩
        have at51 : cl51.slots[(23 : Int32).toNatClampNeg]? = some .null := H51.at in51 rfl
        refine OGo.st (fun _ kz => X50.aaload hx (by rw [e50]; exact Aq51.1) (State.isArrayOf_alike hZ.alike Aq51.2.1) rfl Aq51.2.2 in51 at51 (g := (mkF m 19 #[.val (.long (23 : Int64)), .second] [(.int (23 : Int32)), (.ref aw)])) rfl rfl (hb hby d_prog_32_method_4_19) _ kz) ?_
        show OGo p.tables e below Φ (T50.setTop (mkF m 20 #[.val (.long (23 : Int64)), .second] [.null]))
        refine OGo.st (fun _ kz => XS.goto X50.here hx rfl (pc0 := 20) (pc' := 24) rfl (hb hby d_prog_32_method_4_20) (by decide) (by decide) kz) ?_
        show OGo p.tables e below Φ (T50.setTop (mkF m 24 #[.val (.long (23 : Int64)), .second] [.null]))
        refine OGo.fin X50 hlk (v := (some .null)) (fun h => by rw [hret] at h; cases h) (by decide) (by decide) (fun fs hr => X50.areturnOut hx rfl hret rfl (hb hby d_prog_32_method_4_24) hr) fun U eU hF => hΦ _ _ _ ?_ hF
        rw [eU, e50]
        show Q_rm1 Z x aw ca k0 k1 k5 k10 k12 k13 k14 k15 h0 n0 _ _ _
        exact ⟨by rw [hk3]; rfl, N0, rfl⟩
      · rw [hk3]
        show OGo p.tables e below Φ (s₁.setTop (mkF m 14 #[.val (.long (24 : Int64)), .second] []))
        obtain ⟨T52, X52, e52, st52⟩ := getS2 X0 hx hZ hown (host := "") (Or.inl (ow5 hw)) Via.refl e0 S_w (g := (mkF m 14 #[.val (.long (24 : Int64)), .second] [])) rfl (hb hby d_prog_32_method_4_14)
        refine OGo.st st52 ?_
        show OGo p.tables e below Φ (T52.setTop (mkF m 17 #[.val (.long (24 : Int64)), .second] [(.ref aw)]))
        refine OGo.st (fun _ kz => XT.lloadN X52.here hx rfl (hb hby d_prog_32_method_4_17) rfl kz) ?_
        show OGo p.tables e below Φ (T52.setTop (mkF m 18 #[.val (.long (24 : Int64)), .second] [(.long (24 : Int64)), (.ref aw)]))
        refine OGo.st (fun _ kz => XT.l2i X52.here hx rfl (hb hby d_prog_32_method_4_18) rfl kz) ?_
        show OGo p.tables e below Φ (T52.setTop (mkF m 19 #[.val (.long (24 : Int64)), .second] [(.int (24 : Int32)), (.ref aw)]))
        obtain ⟨cl53, Aq53, -, S53, M53, H53, -⟩ := id V_w
        have in53 : ¬ ((24 : Int32) < 0 ∨ cl53.slots.size ≤ (24 : Int32).toNatClampNeg) := inb_of S53 ⟨by decide, by decide⟩
        have at53 : cl53.slots[(24 : Int32).toNatClampNeg]? = some .null := H53.at in53 rfl
        refine OGo.st (fun _ kz => X52.aaload hx (by rw [e52]; exact Aq53.1) (State.isArrayOf_alike hZ.alike Aq53.2.1) rfl Aq53.2.2 in53 at53 (g := (mkF m 19 #[.val (.long (24 : Int64)), .second] [(.int (24 : Int32)), (.ref aw)])) rfl rfl (hb hby d_prog_32_method_4_19) _ kz) ?_
        show OGo p.tables e below Φ (T52.setTop (mkF m 20 #[.val (.long (24 : Int64)), .second] [.null]))
        refine OGo.st (fun _ kz => XS.goto X52.here hx rfl (pc0 := 20) (pc' := 24) rfl (hb hby d_prog_32_method_4_20) (by decide) (by decide) kz) ?_
        show OGo p.tables e below Φ (T52.setTop (mkF m 24 #[.val (.long (24 : Int64)), .second] [.null]))
        refine OGo.fin X52 hlk (v := (some .null)) (fun h => by rw [hret] at h; cases h) (by decide) (by decide) (fun fs hr => X52.areturnOut hx rfl hret rfl (hb hby d_prog_32_method_4_24) hr) fun U eU hF => hΦ _ _ _ ?_ hF
        rw [eU, e52]
        show Q_rm1 Z x aw ca k0 k1 k5 k10 k12 k13 k14 k15 h0 n0 _ _ _
        exact ⟨by rw [hk3]; rfl, N0, rfl⟩
      · rw [hk3]
        show OGo p.tables e below Φ (s₁.setTop (mkF m 14 #[.val (.long (25 : Int64)), .second] []))
        obtain ⟨T54, X54, e54, st54⟩ := getS2 X0 hx hZ hown (host := "") (Or.inl (ow5 hw)) Via.refl e0 S_w (g := (mkF m 14 #[.val (.long (25 : Int64)), .second] [])) rfl (hb hby d_prog_32_method_4_14)
        refine OGo.st st54 ?_
        show OGo p.tables e below Φ (T54.setTop (mkF m 17 #[.val (.long (25 : Int64)), .second] [(.ref aw)]))
        refine OGo.st (fun _ kz => XT.lloadN X54.here hx rfl (hb hby d_prog_32_method_4_17) rfl kz) ?_
        show OGo p.tables e below Φ (T54.setTop (mkF m 18 #[.val (.long (25 : Int64)), .second] [(.long (25 : Int64)), (.ref aw)]))
        refine OGo.st (fun _ kz => XT.l2i X54.here hx rfl (hb hby d_prog_32_method_4_18) rfl kz) ?_
        show OGo p.tables e below Φ (T54.setTop (mkF m 19 #[.val (.long (25 : Int64)), .second] [(.int (25 : Int32)), (.ref aw)]))
        obtain ⟨cl55, Aq55, -, S55, M55, H55, -⟩ := id V_w
        have in55 : ¬ ((25 : Int32) < 0 ∨ cl55.slots.size ≤ (25 : Int32).toNatClampNeg) := inb_of S55 ⟨by decide, by decide⟩
        have at55 : cl55.slots[(25 : Int32).toNatClampNeg]? = some .null := H55.at in55 rfl
        refine OGo.st (fun _ kz => X54.aaload hx (by rw [e54]; exact Aq55.1) (State.isArrayOf_alike hZ.alike Aq55.2.1) rfl Aq55.2.2 in55 at55 (g := (mkF m 19 #[.val (.long (25 : Int64)), .second] [(.int (25 : Int32)), (.ref aw)])) rfl rfl (hb hby d_prog_32_method_4_19) _ kz) ?_
        show OGo p.tables e below Φ (T54.setTop (mkF m 20 #[.val (.long (25 : Int64)), .second] [.null]))
        refine OGo.st (fun _ kz => XS.goto X54.here hx rfl (pc0 := 20) (pc' := 24) rfl (hb hby d_prog_32_method_4_20) (by decide) (by decide) kz) ?_
        show OGo p.tables e below Φ (T54.setTop (mkF m 24 #[.val (.long (25 : Int64)), .second] [.null]))
        refine OGo.fin X54 hlk (v := (some .null)) (fun h => by rw [hret] at h; cases h) (by decide) (by decide) (fun fs hr => X54.areturnOut hx rfl hret rfl (hb hby d_prog_32_method_4_24) hr) fun U eU hF => hΦ _ _ _ ?_ hF
        rw [eU, e54]
        show Q_rm1 Z x aw ca k0 k1 k5 k10 k12 k13 k14 k15 h0 n0 _ _ _
        exact ⟨by rw [hk3]; rfl, N0, rfl⟩
      · rw [hk3]
        show OGo p.tables e below Φ (s₁.setTop (mkF m 14 #[.val (.long (26 : Int64)), .second] []))
        obtain ⟨T56, X56, e56, st56⟩ := getS2 X0 hx hZ hown (host := "") (Or.inl (ow5 hw)) Via.refl e0 S_w (g := (mkF m 14 #[.val (.long (26 : Int64)), .second] [])) rfl (hb hby d_prog_32_method_4_14)
        refine OGo.st st56 ?_
        show OGo p.tables e below Φ (T56.setTop (mkF m 17 #[.val (.long (26 : Int64)), .second] [(.ref aw)]))
        refine OGo.st (fun _ kz => XT.lloadN X56.here hx rfl (hb hby d_prog_32_method_4_17) rfl kz) ?_
        show OGo p.tables e below Φ (T56.setTop (mkF m 18 #[.val (.long (26 : Int64)), .second] [(.long (26 : Int64)), (.ref aw)]))
        refine OGo.st (fun _ kz => XT.l2i X56.here hx rfl (hb hby d_prog_32_method_4_18) rfl kz) ?_
        show OGo p.tables e below Φ (T56.setTop (mkF m 19 #[.val (.long (26 : Int64)), .second] [(.int (26 : Int32)), (.ref aw)]))
        obtain ⟨cl57, Aq57, -, S57, M57, H57, -⟩ := id V_w
        have in57 : ¬ ((26 : Int32) < 0 ∨ cl57.slots.size ≤ (26 : Int32).toNatClampNeg) := inb_of S57 ⟨by decide, by decide⟩
        have at57 : cl57.slots[(26 : Int32).toNatClampNeg]? = some .null := H57.at in57 rfl
        refine OGo.st (fun _ kz => X56.aaload hx (by rw [e56]; exact Aq57.1) (State.isArrayOf_alike hZ.alike Aq57.2.1) rfl Aq57.2.2 in57 at57 (g := (mkF m 19 #[.val (.long (26 : Int64)), .second] [(.int (26 : Int32)), (.ref aw)])) rfl rfl (hb hby d_prog_32_method_4_19) _ kz) ?_
        show OGo p.tables e below Φ (T56.setTop (mkF m 20 #[.val (.long (26 : Int64)), .second] [.null]))
        refine OGo.st (fun _ kz => XS.goto X56.here hx rfl (pc0 := 20) (pc' := 24) rfl (hb hby d_prog_32_method_4_20) (by decide) (by decide) kz) ?_
        show OGo p.tables e below Φ (T56.setTop (mkF m 24 #[.val (.long (26 : Int64)), .second] [.null]))
        refine OGo.fin X56 hlk (v := (some .null)) (fun h => by rw [hret] at h; cases h) (by decide) (by decide) (fun fs hr => X56.areturnOut hx rfl hret rfl (hb hby d_prog_32_method_4_24) hr) fun U eU hF => hΦ _ _ _ ?_ hF
        rw [eU, e56]
        show Q_rm1 Z x aw ca k0 k1 k5 k10 k12 k13 k14 k15 h0 n0 _ _ _
        exact ⟨by rw [hk3]; rfl, N0, rfl⟩
      · rw [hk3]
        show OGo p.tables e below Φ (s₁.setTop (mkF m 14 #[.val (.long (27 : Int64)), .second] []))
        obtain ⟨T58, X58, e58, st58⟩ := getS2 X0 hx hZ hown (host := "") (Or.inl (ow5 hw)) Via.refl e0 S_w (g := (mkF m 14 #[.val (.long (27 : Int64)), .second] [])) rfl (hb hby d_prog_32_method_4_14)
        refine OGo.st st58 ?_
        show OGo p.tables e below Φ (T58.setTop (mkF m 17 #[.val (.long (27 : Int64)), .second] [(.ref aw)]))
        refine OGo.st (fun _ kz => XT.lloadN X58.here hx rfl (hb hby d_prog_32_method_4_17) rfl kz) ?_
        show OGo p.tables e below Φ (T58.setTop (mkF m 18 #[.val (.long (27 : Int64)), .second] [(.long (27 : Int64)), (.ref aw)]))
        refine OGo.st (fun _ kz => XT.l2i X58.here hx rfl (hb hby d_prog_32_method_4_18) rfl kz) ?_
        show OGo p.tables e below Φ (T58.setTop (mkF m 19 #[.val (.long (27 : Int64)), .second] [(.int (27 : Int32)), (.ref aw)]))
        obtain ⟨cl59, Aq59, -, S59, M59, H59, -⟩ := id V_w
        have in59 : ¬ ((27 : Int32) < 0 ∨ cl59.slots.size ≤ (27 : Int32).toNatClampNeg) := inb_of S59 ⟨by decide, by decide⟩
        have at59 : cl59.slots[(27 : Int32).toNatClampNeg]? = some .null := H59.at in59 rfl
        refine OGo.st (fun _ kz => X58.aaload hx (by rw [e58]; exact Aq59.1) (State.isArrayOf_alike hZ.alike Aq59.2.1) rfl Aq59.2.2 in59 at59 (g := (mkF m 19 #[.val (.long (27 : Int64)), .second] [(.int (27 : Int32)), (.ref aw)])) rfl rfl (hb hby d_prog_32_method_4_19) _ kz) ?_
        show OGo p.tables e below Φ (T58.setTop (mkF m 20 #[.val (.long (27 : Int64)), .second] [.null]))
        refine OGo.st (fun _ kz => XS.goto X58.here hx rfl (pc0 := 20) (pc' := 24) rfl (hb hby d_prog_32_method_4_20) (by decide) (by decide) kz) ?_
        show OGo p.tables e below Φ (T58.setTop (mkF m 24 #[.val (.long (27 : Int64)), .second] [.null]))
        refine OGo.fin X58 hlk (v := (some .null)) (fun h => by rw [hret] at h; cases h) (by decide) (by decide) (fun fs hr => X58.areturnOut hx rfl hret rfl (hb hby d_prog_32_method_4_24) hr) fun U eU hF => hΦ _ _ _ ?_ hF
        rw [eU, e58]
        show Q_rm1 Z x aw ca k0 k1 k5 k10 k12 k13 k14 k15 h0 n0 _ _ _
        exact ⟨by rw [hk3]; rfl, N0, rfl⟩
      · rw [hk3]
        show OGo p.tables e below Φ (s₁.setTop (mkF m 14 #[.val (.long (28 : Int64)), .second] []))
        obtain ⟨T60, X60, e60, st60⟩ := getS2 X0 hx hZ hown (host := "") (Or.inl (ow5 hw)) Via.refl e0 S_w (g := (mkF m 14 #[.val (.long (28 : Int64)), .second] [])) rfl (hb hby d_prog_32_method_4_14)
        refine OGo.st st60 ?_
        show OGo p.tables e below Φ (T60.setTop (mkF m 17 #[.val (.long (28 : Int64)), .second] [(.ref aw)]))
        refine OGo.st (fun _ kz => XT.lloadN X60.here hx rfl (hb hby d_prog_32_method_4_17) rfl kz) ?_
        show OGo p.tables e below Φ (T60.setTop (mkF m 18 #[.val (.long (28 : Int64)), .second] [(.long (28 : Int64)), (.ref aw)]))
        refine OGo.st (fun _ kz => XT.l2i X60.here hx rfl (hb hby d_prog_32_method_4_18) rfl kz) ?_
        show OGo p.tables e below Φ (T60.setTop (mkF m 19 #[.val (.long (28 : Int64)), .second] [(.int (28 : Int32)), (.ref aw)]))
        obtain ⟨cl61, Aq61, -, S61, M61, H61, -⟩ := id V_w
        have in61 : ¬ ((28 : Int32) < 0 ∨ cl61.slots.size ≤ (28 : Int32).toNatClampNeg) := inb_of S61 ⟨by decide, by decide⟩
        have at61 : cl61.slots[(28 : Int32).toNatClampNeg]? = some .null := H61.at in61 rfl
        refine OGo.st (fun _ kz => X60.aaload hx (by rw [e60]; exact Aq61.1) (State.isArrayOf_alike hZ.alike Aq61.2.1) rfl Aq61.2.2 in61 at61 (g := (mkF m 19 #[.val (.long (28 : Int64)), .second] [(.int (28 : Int32)), (.ref aw)])) rfl rfl (hb hby d_prog_32_method_4_19) _ kz) ?_
        show OGo p.tables e below Φ (T60.setTop (mkF m 20 #[.val (.long (28 : Int64)), .second] [.null]))
        refine OGo.st (fun _ kz => XS.goto X60.here hx rfl (pc0 := 20) (pc' := 24) rfl (hb hby d_prog_32_method_4_20) (by decide) (by decide) kz) ?_
        show OGo p.tables e below Φ (T60.setTop (mkF m 24 #[.val (.long (28 : Int64)), .second] [.null]))
        refine OGo.fin X60 hlk (v := (some .null)) (fun h => by rw [hret] at h; cases h) (by decide) (by decide) (fun fs hr => X60.areturnOut hx rfl hret rfl (hb hby d_prog_32_method_4_24) hr) fun U eU hF => hΦ _ _ _ ?_ hF
        rw [eU, e60]
        show Q_rm1 Z x aw ca k0 k1 k5 k10 k12 k13 k14 k15 h0 n0 _ _ _
        exact ⟨by rw [hk3]; rfl, N0, rfl⟩
      · rw [hk3]
        show OGo p.tables e below Φ (s₁.setTop (mkF m 14 #[.val (.long (29 : Int64)), .second] []))
        obtain ⟨T62, X62, e62, st62⟩ := getS2 X0 hx hZ hown (host := "") (Or.inl (ow5 hw)) Via.refl e0 S_w (g := (mkF m 14 #[.val (.long (29 : Int64)), .second] [])) rfl (hb hby d_prog_32_method_4_14)
        refine OGo.st st62 ?_
        show OGo p.tables e below Φ (T62.setTop (mkF m 17 #[.val (.long (29 : Int64)), .second] [(.ref aw)]))
        refine OGo.st (fun _ kz => XT.lloadN X62.here hx rfl (hb hby d_prog_32_method_4_17) rfl kz) ?_
        show OGo p.tables e below Φ (T62.setTop (mkF m 18 #[.val (.long (29 : Int64)), .second] [(.long (29 : Int64)), (.ref aw)]))
        refine OGo.st (fun _ kz => XT.l2i X62.here hx rfl (hb hby d_prog_32_method_4_18) rfl kz) ?_
        show OGo p.tables e below Φ (T62.setTop (mkF m 19 #[.val (.long (29 : Int64)), .second] [(.int (29 : Int32)), (.ref aw)]))
        obtain ⟨cl63, Aq63, -, S63, M63, H63, -⟩ := id V_w
        have in63 : ¬ ((29 : Int32) < 0 ∨ cl63.slots.size ≤ (29 : Int32).toNatClampNeg) := inb_of S63 ⟨by decide, by decide⟩
        have at63 : cl63.slots[(29 : Int32).toNatClampNeg]? = some .null := H63.at in63 rfl
        refine OGo.st (fun _ kz => X62.aaload hx (by rw [e62]; exact Aq63.1) (State.isArrayOf_alike hZ.alike Aq63.2.1) rfl Aq63.2.2 in63 at63 (g := (mkF m 19 #[.val (.long (29 : Int64)), .second] [(.int (29 : Int32)), (.ref aw)])) rfl rfl (hb hby d_prog_32_method_4_19) _ kz) ?_
        show OGo p.tables e below Φ (T62.setTop (mkF m 20 #[.val (.long (29 : Int64)), .second] [.null]))
        refine OGo.st (fun _ kz => XS.goto X62.here hx rfl (pc0 := 20) (pc' := 24) rfl (hb hby d_prog_32_method_4_20) (by decide) (by decide) kz) ?_
        show OGo p.tables e below Φ (T62.setTop (mkF m 24 #[.val (.long (29 : Int64)), .second] [.null]))
        refine OGo.fin X62 hlk (v := (some .null)) (fun h => by rw [hret] at h; cases h) (by decide) (by decide) (fun fs hr => X62.areturnOut hx rfl hret rfl (hb hby d_prog_32_method_4_24) hr) fun U eU hF => hΦ _ _ _ ?_ hF
        rw [eU, e62]
        show Q_rm1 Z x aw ca k0 k1 k5 k10 k12 k13 k14 k15 h0 n0 _ _ _
        exact ⟨by rw [hk3]; rfl, N0, rfl⟩
      · rw [hk3]
        show OGo p.tables e below Φ (s₁.setTop (mkF m 14 #[.val (.long (30 : Int64)), .second] []))
        obtain ⟨T64, X64, e64, st64⟩ := getS2 X0 hx hZ hown (host := "") (Or.inl (ow5 hw)) Via.refl e0 S_w (g := (mkF m 14 #[.val (.long (30 : Int64)), .second] [])) rfl (hb hby d_prog_32_method_4_14)
        refine OGo.st st64 ?_
        show OGo p.tables e below Φ (T64.setTop (mkF m 17 #[.val (.long (30 : Int64)), .second] [(.ref aw)]))
        refine OGo.st (fun _ kz => XT.lloadN X64.here hx rfl (hb hby d_prog_32_method_4_17) rfl kz) ?_
        show OGo p.tables e below Φ (T64.setTop (mkF m 18 #[.val (.long (30 : Int64)), .second] [(.long (30 : Int64)), (.ref aw)]))
        refine OGo.st (fun _ kz => XT.l2i X64.here hx rfl (hb hby d_prog_32_method_4_18) rfl kz) ?_
        show OGo p.tables e below Φ (T64.setTop (mkF m 19 #[.val (.long (30 : Int64)), .second] [(.int (30 : Int32)), (.ref aw)]))
        obtain ⟨cl65, Aq65, -, S65, M65, H65, -⟩ := id V_w
        have in65 : ¬ ((30 : Int32) < 0 ∨ cl65.slots.size ≤ (30 : Int32).toNatClampNeg) := inb_of S65 ⟨by decide, by decide⟩
        have at65 : cl65.slots[(30 : Int32).toNatClampNeg]? = some .null := H65.at in65 rfl
        refine OGo.st (fun _ kz => X64.aaload hx (by rw [e64]; exact Aq65.1) (State.isArrayOf_alike hZ.alike Aq65.2.1) rfl Aq65.2.2 in65 at65 (g := (mkF m 19 #[.val (.long (30 : Int64)), .second] [(.int (30 : Int32)), (.ref aw)])) rfl rfl (hb hby d_prog_32_method_4_19) _ kz) ?_
        show OGo p.tables e below Φ (T64.setTop (mkF m 20 #[.val (.long (30 : Int64)), .second] [.null]))
        refine OGo.st (fun _ kz => XS.goto X64.here hx rfl (pc0 := 20) (pc' := 24) rfl (hb hby d_prog_32_method_4_20) (by decide) (by decide) kz) ?_
        show OGo p.tables e below Φ (T64.setTop (mkF m 24 #[.val (.long (30 : Int64)), .second] [.null]))
        refine OGo.fin X64 hlk (v := (some .null)) (fun h => by rw [hret] at h; cases h) (by decide) (by decide) (fun fs hr => X64.areturnOut hx rfl hret rfl (hb hby d_prog_32_method_4_24) hr) fun U eU hF => hΦ _ _ _ ?_ hF
        rw [eU, e64]
        show Q_rm1 Z x aw ca k0 k1 k5 k10 k12 k13 k14 k15 h0 n0 _ _ _
        exact ⟨by rw [hk3]; rfl, N0, rfl⟩
      · rw [hk3]
        show OGo p.tables e below Φ (s₁.setTop (mkF m 14 #[.val (.long (31 : Int64)), .second] []))
        obtain ⟨T66, X66, e66, st66⟩ := getS2 X0 hx hZ hown (host := "") (Or.inl (ow5 hw)) Via.refl e0 S_w (g := (mkF m 14 #[.val (.long (31 : Int64)), .second] [])) rfl (hb hby d_prog_32_method_4_14)
        refine OGo.st st66 ?_
        show OGo p.tables e below Φ (T66.setTop (mkF m 17 #[.val (.long (31 : Int64)), .second] [(.ref aw)]))
        refine OGo.st (fun _ kz => XT.lloadN X66.here hx rfl (hb hby d_prog_32_method_4_17) rfl kz) ?_
        show OGo p.tables e below Φ (T66.setTop (mkF m 18 #[.val (.long (31 : Int64)), .second] [(.long (31 : Int64)), (.ref aw)]))
        refine OGo.st (fun _ kz => XT.l2i X66.here hx rfl (hb hby d_prog_32_method_4_18) rfl kz) ?_
        show OGo p.tables e below Φ (T66.setTop (mkF m 19 #[.val (.long (31 : Int64)), .second] [(.int (31 : Int32)), (.ref aw)]))
        obtain ⟨cl67, Aq67, -, S67, M67, H67, -⟩ := id V_w
        have in67 : ¬ ((31 : Int32) < 0 ∨ cl67.slots.size ≤ (31 : Int32).toNatClampNeg) := inb_of S67 ⟨by decide, by decide⟩
        have at67 : cl67.slots[(31 : Int32).toNatClampNeg]? = some .null := H67.at in67 rfl
        refine OGo.st (fun _ kz => X66.aaload hx (by rw [e66]; exact Aq67.1) (State.isArrayOf_alike hZ.alike Aq67.2.1) rfl Aq67.2.2 in67 at67 (g := (mkF m 19 #[.val (.long (31 : Int64)), .second] [(.int (31 : Int32)), (.ref aw)])) rfl rfl (hb hby d_prog_32_method_4_19) _ kz) ?_
        show OGo p.tables e below Φ (T66.setTop (mkF m 20 #[.val (.long (31 : Int64)), .second] [.null]))
        refine OGo.st (fun _ kz => XS.goto X66.here hx rfl (pc0 := 20) (pc' := 24) rfl (hb hby d_prog_32_method_4_20) (by decide) (by decide) kz) ?_
        show OGo p.tables e below Φ (T66.setTop (mkF m 24 #[.val (.long (31 : Int64)), .second] [.null]))
        refine OGo.fin X66 hlk (v := (some .null)) (fun h => by rw [hret] at h; cases h) (by decide) (by decide) (fun fs hr => X66.areturnOut hx rfl hret rfl (hb hby d_prog_32_method_4_24) hr) fun U eU hF => hΦ _ _ _ ?_ hF
        rw [eU, e66]
        show Q_rm1 Z x aw ca k0 k1 k5 k10 k12 k13 k14 k15 h0 n0 _ _ _
        exact ⟨by rw [hk3]; rfl, N0, rfl⟩
    · refine OGo.st (fun _ kz => XS.ifYes X0.here hx rfl (pc0 := 11) (pc' := 23) rfl (hb hby d_prog_32_method_4_11) rfl (XT.ll_ge_t hc2) (by decide) (by decide) kz) ?_
      show OGo p.tables e below Φ (s₁.setTop (mkF m 23 #[.val (.long x), .second] []))
      refine OGo.st (fun _ kz => XS.aconstNull X0.here hx rfl (hb hby d_prog_32_method_4_23) kz) ?_
      show OGo p.tables e below Φ (s₁.setTop (mkF m 24 #[.val (.long x), .second] [.null]))
      refine OGo.fin X0 hlk (v := (some .null)) (fun h => by rw [hret] at h; cases h) (by decide) (by decide) (fun fs hr => X0.areturnOut hx rfl hret rfl (hb hby d_prog_32_method_4_24) hr) fun U eU hF => hΦ _ _ _ ?_ hF
      rw [eU, e0]
      show Q_rm1 Z x aw ca k0 k1 k5 k10 k12 k13 k14 k15 h0 n0 _ _ _
      exact ⟨by rw [own_kv_big hc2], N0, rfl⟩

theorem pn1 : plainName "com/example/tersewire/tersewire/WirePrimitiveKindPinLaw" = true := by first | (simp [plainName, overriddenIn]; done) | decide +kernel
theorem d_method_2_0 : decode method_2_code 0 = .ok (.lload_n 0, 1) := by decide +kernel
theorem d_method_2_1 : decode method_2_code 1 = .ok (.lconst 0, 1) := by decide +kernel
theorem d_method_2_2 : decode method_2_code 2 = .ok (.lcmp, 1) := by decide +kernel
theorem d_method_2_3 : decode method_2_code 3 = .ok (.ifCond .ne 7, 3) := by decide +kernel
theorem d_method_2_6 : decode method_2_code 6 = .ok (.getstatic 7, 3) := by decide +kernel
theorem d_method_2_9 : decode method_2_code 9 = .ok (.areturn, 1) := by decide +kernel
theorem d_method_2_10 : decode method_2_code 10 = .ok (.lload_n 0, 1) := by decide +kernel
theorem d_method_2_11 : decode method_2_code 11 = .ok (.lconst 1, 1) := by decide +kernel
theorem d_method_2_12 : decode method_2_code 12 = .ok (.lcmp, 1) := by decide +kernel
theorem d_method_2_13 : decode method_2_code 13 = .ok (.ifCond .ne 7, 3) := by decide +kernel
theorem d_method_2_16 : decode method_2_code 16 = .ok (.getstatic 13, 3) := by decide +kernel
theorem d_method_2_19 : decode method_2_code 19 = .ok (.areturn, 1) := by decide +kernel
theorem d_method_2_20 : decode method_2_code 20 = .ok (.lload_n 0, 1) := by decide +kernel
theorem d_method_2_21 : decode method_2_code 21 = .ok (.ldc2_w 16, 3) := by decide +kernel
theorem d_method_2_24 : decode method_2_code 24 = .ok (.lcmp, 1) := by decide +kernel
theorem d_method_2_25 : decode method_2_code 25 = .ok (.ifCond .ne 7, 3) := by decide +kernel
theorem d_method_2_28 : decode method_2_code 28 = .ok (.getstatic 18, 3) := by decide +kernel
theorem d_method_2_31 : decode method_2_code 31 = .ok (.areturn, 1) := by decide +kernel
theorem d_method_2_32 : decode method_2_code 32 = .ok (.lload_n 0, 1) := by decide +kernel
theorem d_method_2_33 : decode method_2_code 33 = .ok (.ldc2_w 21, 3) := by decide +kernel
theorem d_method_2_36 : decode method_2_code 36 = .ok (.lcmp, 1) := by decide +kernel
theorem d_method_2_37 : decode method_2_code 37 = .ok (.ifCond .ne 7, 3) := by decide +kernel
theorem d_method_2_40 : decode method_2_code 40 = .ok (.getstatic 23, 3) := by decide +kernel
theorem d_method_2_43 : decode method_2_code 43 = .ok (.areturn, 1) := by decide +kernel
theorem d_method_2_44 : decode method_2_code 44 = .ok (.lload_n 0, 1) := by decide +kernel
theorem d_method_2_45 : decode method_2_code 45 = .ok (.ldc2_w 26, 3) := by decide +kernel
theorem d_method_2_48 : decode method_2_code 48 = .ok (.lcmp, 1) := by decide +kernel
theorem d_method_2_49 : decode method_2_code 49 = .ok (.ifCond .ne 7, 3) := by decide +kernel
theorem d_method_2_52 : decode method_2_code 52 = .ok (.getstatic 28, 3) := by decide +kernel
theorem d_method_2_55 : decode method_2_code 55 = .ok (.areturn, 1) := by decide +kernel
theorem d_method_2_56 : decode method_2_code 56 = .ok (.lload_n 0, 1) := by decide +kernel
theorem d_method_2_57 : decode method_2_code 57 = .ok (.ldc2_w 31, 3) := by decide +kernel
theorem d_method_2_60 : decode method_2_code 60 = .ok (.lcmp, 1) := by decide +kernel
theorem d_method_2_61 : decode method_2_code 61 = .ok (.ifCond .ne 7, 3) := by decide +kernel
theorem d_method_2_64 : decode method_2_code 64 = .ok (.getstatic 33, 3) := by decide +kernel
theorem d_method_2_67 : decode method_2_code 67 = .ok (.areturn, 1) := by decide +kernel
theorem d_method_2_68 : decode method_2_code 68 = .ok (.lload_n 0, 1) := by decide +kernel
theorem d_method_2_69 : decode method_2_code 69 = .ok (.ldc2_w 36, 3) := by decide +kernel
theorem d_method_2_72 : decode method_2_code 72 = .ok (.lcmp, 1) := by decide +kernel
theorem d_method_2_73 : decode method_2_code 73 = .ok (.ifCond .ne 7, 3) := by decide +kernel
theorem d_method_2_76 : decode method_2_code 76 = .ok (.getstatic 38, 3) := by decide +kernel
theorem d_method_2_79 : decode method_2_code 79 = .ok (.areturn, 1) := by decide +kernel
theorem d_method_2_80 : decode method_2_code 80 = .ok (.lload_n 0, 1) := by decide +kernel
theorem d_method_2_81 : decode method_2_code 81 = .ok (.ldc2_w 41, 3) := by decide +kernel
theorem d_method_2_84 : decode method_2_code 84 = .ok (.lcmp, 1) := by decide +kernel
theorem d_method_2_85 : decode method_2_code 85 = .ok (.ifCond .ne 7, 3) := by decide +kernel
theorem d_method_2_88 : decode method_2_code 88 = .ok (.getstatic 43, 3) := by decide +kernel
theorem d_method_2_91 : decode method_2_code 91 = .ok (.areturn, 1) := by decide +kernel
theorem d_method_2_92 : decode method_2_code 92 = .ok (.aconst_null, 1) := by decide +kernel
theorem d_method_2_93 : decode method_2_code 93 = .ok (.areturn, 1) := by decide +kernel
theorem ef_rm2 (m : MethodId) (x0 : Int64) : entryFrame m #[(.long x0)] 2 = mkF m 0 #[.val (.long x0), .second] [] := by first | (simp [entryFrame, mkF, argsToLocals, Value.category]; done) | rfl
def Q_rm2 (Z : State) (x : Int64) (k0 : Addr) (k1 : Addr) (k5 : Addr) (k10 : Addr) (k12 : Addr) (k13 : Addr) (k14 : Addr) (k15 : Addr) (h0 : Heap) (n0 : Nat) (v : Option Value) (h : Heap) (L : List Loc) : Prop := v = some (own_kv x k0 k1 k5 k10 k12 k13 k14 k15) ∧ Fr n0 L ∧ h = h0
set_option maxRecDepth 65536 in
set_option maxHeartbeats 40000000 in
theorem rm2 (l : Launch) (Z : State) (a0 : Array Value) (hw : ∀ d ∈ tables_1, d.before a0 Z = true) (ws : List Jvm.Cond) (x : Int64) (k0 : Addr) (k1 : Addr) (k5 : Addr) (k10 : Addr) (k12 : Addr) (k13 : Addr) (k14 : Addr) (k15 : Addr) (h0 : Heap) (n0 : Nat) (Z0 : n0 ≤ h0.size) (S_0 : Sta Z h0 "com/example/tersewire/tersewire/ValueKind" "NULL" "Lcom/example/tersewire/tersewire/ValueKind;" (.ref k0)) (S_1 : Sta Z h0 "com/example/tersewire/tersewire/ValueKind" "BOOL" "Lcom/example/tersewire/tersewire/ValueKind;" (.ref k1)) (S_5 : Sta Z h0 "com/example/tersewire/tersewire/ValueKind" "INT64" "Lcom/example/tersewire/tersewire/ValueKind;" (.ref k5)) (S_10 : Sta Z h0 "com/example/tersewire/tersewire/ValueKind" "BIGINT" "Lcom/example/tersewire/tersewire/ValueKind;" (.ref k10)) (S_12 : Sta Z h0 "com/example/tersewire/tersewire/ValueKind" "FLOAT64" "Lcom/example/tersewire/tersewire/ValueKind;" (.ref k12)) (S_13 : Sta Z h0 "com/example/tersewire/tersewire/ValueKind" "DECIMAL" "Lcom/example/tersewire/tersewire/ValueKind;" (.ref k13)) (S_14 : Sta Z h0 "com/example/tersewire/tersewire/ValueKind" "STRING" "Lcom/example/tersewire/tersewire/ValueKind;" (.ref k14)) (S_15 : Sta Z h0 "com/example/tersewire/tersewire/ValueKind" "BYTES" "Lcom/example/tersewire/tersewire/ValueKind;" (.ref k15)) :
    OCon l Z (⟨"com/example/tersewire/tersewire/WirePrimitiveKindPinLaw", "expected", "(J)Lcom/example/tersewire/tersewire/ValueKind;"⟩ : MethodName) method_2_code 2 (some (.object "com/example/tersewire/tersewire/ValueKind")) ws ({ frames := 0, cells := 0, slots := 0, locals := 0 } : Room) #[(.long x)] h0 (Q_rm2 Z x k0 k1 k5 k10 k12 k13 k14 k15 h0 n0) := by
  refine OCon.of (plainFor_of_name pn1) ?_
  intro p e s m below meth c s₁ Φ X0 hx hby hml hown hnm hret hlk hZ e0 hΦ
  have N0 := Fr.nil n0
  refine OGo.st (fun _ kz => castTop (ef_rm2 m x) kz) ?_
  show OGo p.tables e below Φ (s₁.setTop (mkF m 0 #[.val (.long x), .second] []))
  refine OGo.st (fun _ kz => XT.lloadN X0.here hx rfl (hb hby d_method_2_0) rfl kz) ?_
  show OGo p.tables e below Φ (s₁.setTop (mkF m 1 #[.val (.long x), .second] [(.long x)]))
  refine OGo.st (fun _ kz => XT.lconst X0.here hx rfl (hb hby d_method_2_1) kz) ?_
  show OGo p.tables e below Φ (s₁.setTop (mkF m 2 #[.val (.long x), .second] [(.long (0 : Int64)), (.long x)]))
  refine OGo.st (fun _ kz => XT.lcmp X0.here hx rfl (hb hby d_method_2_2) rfl kz) ?_
  show OGo p.tables e below Φ (s₁.setTop (mkF m 3 #[.val (.long x), .second] [(.int (XT.cmpL x (0 : Int64)))]))
  by_cases hc1 : x = (0 : Int64)
  · refine OGo.st (fun _ kz => XS.ifNo X0.here hx rfl (hb hby d_method_2_3) rfl (XT.ll_ne_f hc1) kz) ?_
    show OGo p.tables e below Φ (s₁.setTop (mkF m 6 #[.val (.long x), .second] []))
    obtain ⟨T2, X2, e2, st2⟩ := getS2 X0 hx hZ hown (host := "") (Or.inl (ow25 hw)) Via.refl e0 S_0 (g := (mkF m 6 #[.val (.long x), .second] [])) rfl (hb hby d_method_2_6)
    refine OGo.st st2 ?_
    show OGo p.tables e below Φ (T2.setTop (mkF m 9 #[.val (.long x), .second] [(.ref k0)]))
    refine OGo.fin X2 hlk (v := (some (.ref k0))) (fun h => by rw [hret] at h; cases h) (by decide) (by decide) (fun fs hr => X2.areturnOut hx rfl hret rfl (hb hby d_method_2_9) hr) fun U eU hF => hΦ _ _ _ ?_ hF
    rw [eU, e2]
    show Q_rm2 Z x k0 k1 k5 k10 k12 k13 k14 k15 h0 n0 _ _ _
    exact ⟨by simp [own_kv, hc1], N0, rfl⟩
  · refine OGo.st (fun _ kz => XS.ifYes X0.here hx rfl (pc0 := 3) (pc' := 10) rfl (hb hby d_method_2_3) rfl (XT.ll_ne_t hc1) (by decide) (by decide) kz) ?_
    show OGo p.tables e below Φ (s₁.setTop (mkF m 10 #[.val (.long x), .second] []))
    refine OGo.st (fun _ kz => XT.lloadN X0.here hx rfl (hb hby d_method_2_10) rfl kz) ?_
    show OGo p.tables e below Φ (s₁.setTop (mkF m 11 #[.val (.long x), .second] [(.long x)]))
    refine OGo.st (fun _ kz => XT.lconst X0.here hx rfl (hb hby d_method_2_11) kz) ?_
    show OGo p.tables e below Φ (s₁.setTop (mkF m 12 #[.val (.long x), .second] [(.long (1 : Int64)), (.long x)]))
    refine OGo.st (fun _ kz => XT.lcmp X0.here hx rfl (hb hby d_method_2_12) rfl kz) ?_
    show OGo p.tables e below Φ (s₁.setTop (mkF m 13 #[.val (.long x), .second] [(.int (XT.cmpL x (1 : Int64)))]))
    by_cases hc3 : x = (1 : Int64)
    · refine OGo.st (fun _ kz => XS.ifNo X0.here hx rfl (hb hby d_method_2_13) rfl (XT.ll_ne_f hc3) kz) ?_
      show OGo p.tables e below Φ (s₁.setTop (mkF m 16 #[.val (.long x), .second] []))
      obtain ⟨T4, X4, e4, st4⟩ := getS2 X0 hx hZ hown (host := "") (Or.inl (ow19 hw)) Via.refl e0 S_1 (g := (mkF m 16 #[.val (.long x), .second] [])) rfl (hb hby d_method_2_16)
      refine OGo.st st4 ?_
      show OGo p.tables e below Φ (T4.setTop (mkF m 19 #[.val (.long x), .second] [(.ref k1)]))
      refine OGo.fin X4 hlk (v := (some (.ref k1))) (fun h => by rw [hret] at h; cases h) (by decide) (by decide) (fun fs hr => X4.areturnOut hx rfl hret rfl (hb hby d_method_2_19) hr) fun U eU hF => hΦ _ _ _ ?_ hF
      rw [eU, e4]
      show Q_rm2 Z x k0 k1 k5 k10 k12 k13 k14 k15 h0 n0 _ _ _
      exact ⟨by simp [own_kv, hc1, hc3], N0, rfl⟩
    · refine OGo.st (fun _ kz => XS.ifYes X0.here hx rfl (pc0 := 13) (pc' := 20) rfl (hb hby d_method_2_13) rfl (XT.ll_ne_t hc3) (by decide) (by decide) kz) ?_
      show OGo p.tables e below Φ (s₁.setTop (mkF m 20 #[.val (.long x), .second] []))
      refine OGo.st (fun _ kz => XT.lloadN X0.here hx rfl (hb hby d_method_2_20) rfl kz) ?_
      show OGo p.tables e below Φ (s₁.setTop (mkF m 21 #[.val (.long x), .second] [(.long x)]))
      refine OGo.st (fun _ kz => X0.ldc2J hx hown (mvT hZ (ow11 hw)) rfl (hb hby d_method_2_21) kz) ?_
      show OGo p.tables e below Φ (s₁.setTop (mkF m 24 #[.val (.long x), .second] [(.long (5 : Int64)), (.long x)]))
      refine OGo.st (fun _ kz => XT.lcmp X0.here hx rfl (hb hby d_method_2_24) rfl kz) ?_
      show OGo p.tables e below Φ (s₁.setTop (mkF m 25 #[.val (.long x), .second] [(.int (XT.cmpL x (5 : Int64)))]))
      by_cases hc5 : x = (5 : Int64)
      · refine OGo.st (fun _ kz => XS.ifNo X0.here hx rfl (hb hby d_method_2_25) rfl (XT.ll_ne_f hc5) kz) ?_
        show OGo p.tables e below Φ (s₁.setTop (mkF m 28 #[.val (.long x), .second] []))
        obtain ⟨T6, X6, e6, st6⟩ := getS2 X0 hx hZ hown (host := "") (Or.inl (ow31 hw)) Via.refl e0 S_5 (g := (mkF m 28 #[.val (.long x), .second] [])) rfl (hb hby d_method_2_28)
        refine OGo.st st6 ?_
        show OGo p.tables e below Φ (T6.setTop (mkF m 31 #[.val (.long x), .second] [(.ref k5)]))
        refine OGo.fin X6 hlk (v := (some (.ref k5))) (fun h => by rw [hret] at h; cases h) (by decide) (by decide) (fun fs hr => X6.areturnOut hx rfl hret rfl (hb hby d_method_2_31) hr) fun U eU hF => hΦ _ _ _ ?_ hF
        rw [eU, e6]
        show Q_rm2 Z x k0 k1 k5 k10 k12 k13 k14 k15 h0 n0 _ _ _
        exact ⟨by simp [own_kv, hc1, hc3, hc5], N0, rfl⟩
      · refine OGo.st (fun _ kz => XS.ifYes X0.here hx rfl (pc0 := 25) (pc' := 32) rfl (hb hby d_method_2_25) rfl (XT.ll_ne_t hc5) (by decide) (by decide) kz) ?_
        show OGo p.tables e below Φ (s₁.setTop (mkF m 32 #[.val (.long x), .second] []))
        refine OGo.st (fun _ kz => XT.lloadN X0.here hx rfl (hb hby d_method_2_32) rfl kz) ?_
        show OGo p.tables e below Φ (s₁.setTop (mkF m 33 #[.val (.long x), .second] [(.long x)]))
        refine OGo.st (fun _ kz => X0.ldc2J hx hown (mvT hZ (ow12 hw)) rfl (hb hby d_method_2_33) kz) ?_
        show OGo p.tables e below Φ (s₁.setTop (mkF m 36 #[.val (.long x), .second] [(.long (10 : Int64)), (.long x)]))
        refine OGo.st (fun _ kz => XT.lcmp X0.here hx rfl (hb hby d_method_2_36) rfl kz) ?_
        show OGo p.tables e below Φ (s₁.setTop (mkF m 37 #[.val (.long x), .second] [(.int (XT.cmpL x (10 : Int64)))]))
        by_cases hc7 : x = (10 : Int64)
        · refine OGo.st (fun _ kz => XS.ifNo X0.here hx rfl (hb hby d_method_2_37) rfl (XT.ll_ne_f hc7) kz) ?_
          show OGo p.tables e below Φ (s₁.setTop (mkF m 40 #[.val (.long x), .second] []))
          obtain ⟨T8, X8, e8, st8⟩ := getS2 X0 hx hZ hown (host := "") (Or.inl (ow29 hw)) Via.refl e0 S_10 (g := (mkF m 40 #[.val (.long x), .second] [])) rfl (hb hby d_method_2_40)
          refine OGo.st st8 ?_
          show OGo p.tables e below Φ (T8.setTop (mkF m 43 #[.val (.long x), .second] [(.ref k10)]))
          refine OGo.fin X8 hlk (v := (some (.ref k10))) (fun h => by rw [hret] at h; cases h) (by decide) (by decide) (fun fs hr => X8.areturnOut hx rfl hret rfl (hb hby d_method_2_43) hr) fun U eU hF => hΦ _ _ _ ?_ hF
          rw [eU, e8]
          show Q_rm2 Z x k0 k1 k5 k10 k12 k13 k14 k15 h0 n0 _ _ _
          exact ⟨by simp [own_kv, hc1, hc3, hc5, hc7], N0, rfl⟩
        · refine OGo.st (fun _ kz => XS.ifYes X0.here hx rfl (pc0 := 37) (pc' := 44) rfl (hb hby d_method_2_37) rfl (XT.ll_ne_t hc7) (by decide) (by decide) kz) ?_
          show OGo p.tables e below Φ (s₁.setTop (mkF m 44 #[.val (.long x), .second] []))
          refine OGo.st (fun _ kz => XT.lloadN X0.here hx rfl (hb hby d_method_2_44) rfl kz) ?_
          show OGo p.tables e below Φ (s₁.setTop (mkF m 45 #[.val (.long x), .second] [(.long x)]))
          refine OGo.st (fun _ kz => X0.ldc2J hx hown (mvT hZ (ow13 hw)) rfl (hb hby d_method_2_45) kz) ?_
          show OGo p.tables e below Φ (s₁.setTop (mkF m 48 #[.val (.long x), .second] [(.long (12 : Int64)), (.long x)]))
          refine OGo.st (fun _ kz => XT.lcmp X0.here hx rfl (hb hby d_method_2_48) rfl kz) ?_
          show OGo p.tables e below Φ (s₁.setTop (mkF m 49 #[.val (.long x), .second] [(.int (XT.cmpL x (12 : Int64)))]))
          by_cases hc9 : x = (12 : Int64)
          · refine OGo.st (fun _ kz => XS.ifNo X0.here hx rfl (hb hby d_method_2_49) rfl (XT.ll_ne_f hc9) kz) ?_
            show OGo p.tables e below Φ (s₁.setTop (mkF m 52 #[.val (.long x), .second] []))
            obtain ⟨T10, X10, e10, st10⟩ := getS2 X0 hx hZ hown (host := "") (Or.inl (ow27 hw)) Via.refl e0 S_12 (g := (mkF m 52 #[.val (.long x), .second] [])) rfl (hb hby d_method_2_52)
            refine OGo.st st10 ?_
            show OGo p.tables e below Φ (T10.setTop (mkF m 55 #[.val (.long x), .second] [(.ref k12)]))
            refine OGo.fin X10 hlk (v := (some (.ref k12))) (fun h => by rw [hret] at h; cases h) (by decide) (by decide) (fun fs hr => X10.areturnOut hx rfl hret rfl (hb hby d_method_2_55) hr) fun U eU hF => hΦ _ _ _ ?_ hF
            rw [eU, e10]
            show Q_rm2 Z x k0 k1 k5 k10 k12 k13 k14 k15 h0 n0 _ _ _
            exact ⟨by simp [own_kv, hc1, hc3, hc5, hc7, hc9], N0, rfl⟩
          · refine OGo.st (fun _ kz => XS.ifYes X0.here hx rfl (pc0 := 49) (pc' := 56) rfl (hb hby d_method_2_49) rfl (XT.ll_ne_t hc9) (by decide) (by decide) kz) ?_
            show OGo p.tables e below Φ (s₁.setTop (mkF m 56 #[.val (.long x), .second] []))
            refine OGo.st (fun _ kz => XT.lloadN X0.here hx rfl (hb hby d_method_2_56) rfl kz) ?_
            show OGo p.tables e below Φ (s₁.setTop (mkF m 57 #[.val (.long x), .second] [(.long x)]))
            refine OGo.st (fun _ kz => X0.ldc2J hx hown (mvT hZ (ow14 hw)) rfl (hb hby d_method_2_57) kz) ?_
            show OGo p.tables e below Φ (s₁.setTop (mkF m 60 #[.val (.long x), .second] [(.long (13 : Int64)), (.long x)]))
            refine OGo.st (fun _ kz => XT.lcmp X0.here hx rfl (hb hby d_method_2_60) rfl kz) ?_
            show OGo p.tables e below Φ (s₁.setTop (mkF m 61 #[.val (.long x), .second] [(.int (XT.cmpL x (13 : Int64)))]))
            by_cases hc11 : x = (13 : Int64)
            · refine OGo.st (fun _ kz => XS.ifNo X0.here hx rfl (hb hby d_method_2_61) rfl (XT.ll_ne_f hc11) kz) ?_
              show OGo p.tables e below Φ (s₁.setTop (mkF m 64 #[.val (.long x), .second] []))
              obtain ⟨T12, X12, e12, st12⟩ := getS2 X0 hx hZ hown (host := "") (Or.inl (ow21 hw)) Via.refl e0 S_13 (g := (mkF m 64 #[.val (.long x), .second] [])) rfl (hb hby d_method_2_64)
              refine OGo.st st12 ?_
              show OGo p.tables e below Φ (T12.setTop (mkF m 67 #[.val (.long x), .second] [(.ref k13)]))
              refine OGo.fin X12 hlk (v := (some (.ref k13))) (fun h => by rw [hret] at h; cases h) (by decide) (by decide) (fun fs hr => X12.areturnOut hx rfl hret rfl (hb hby d_method_2_67) hr) fun U eU hF => hΦ _ _ _ ?_ hF
              rw [eU, e12]
              show Q_rm2 Z x k0 k1 k5 k10 k12 k13 k14 k15 h0 n0 _ _ _
              exact ⟨by simp [own_kv, hc1, hc3, hc5, hc7, hc9, hc11], N0, rfl⟩
            · refine OGo.st (fun _ kz => XS.ifYes X0.here hx rfl (pc0 := 61) (pc' := 68) rfl (hb hby d_method_2_61) rfl (XT.ll_ne_t hc11) (by decide) (by decide) kz) ?_
              show OGo p.tables e below Φ (s₁.setTop (mkF m 68 #[.val (.long x), .second] []))
              refine OGo.st (fun _ kz => XT.lloadN X0.here hx rfl (hb hby d_method_2_68) rfl kz) ?_
              show OGo p.tables e below Φ (s₁.setTop (mkF m 69 #[.val (.long x), .second] [(.long x)]))
              refine OGo.st (fun _ kz => X0.ldc2J hx hown (mvT hZ (ow15 hw)) rfl (hb hby d_method_2_69) kz) ?_
              show OGo p.tables e below Φ (s₁.setTop (mkF m 72 #[.val (.long x), .second] [(.long (14 : Int64)), (.long x)]))
              refine OGo.st (fun _ kz => XT.lcmp X0.here hx rfl (hb hby d_method_2_72) rfl kz) ?_
              show OGo p.tables e below Φ (s₁.setTop (mkF m 73 #[.val (.long x), .second] [(.int (XT.cmpL x (14 : Int64)))]))
              by_cases hc13 : x = (14 : Int64)
              · refine OGo.st (fun _ kz => XS.ifNo X0.here hx rfl (hb hby d_method_2_73) rfl (XT.ll_ne_f hc13) kz) ?_
                show OGo p.tables e below Φ (s₁.setTop (mkF m 76 #[.val (.long x), .second] []))
                obtain ⟨T14, X14, e14, st14⟩ := getS2 X0 hx hZ hown (host := "") (Or.inl (ow33 hw)) Via.refl e0 S_14 (g := (mkF m 76 #[.val (.long x), .second] [])) rfl (hb hby d_method_2_76)
                refine OGo.st st14 ?_
                show OGo p.tables e below Φ (T14.setTop (mkF m 79 #[.val (.long x), .second] [(.ref k14)]))
                refine OGo.fin X14 hlk (v := (some (.ref k14))) (fun h => by rw [hret] at h; cases h) (by decide) (by decide) (fun fs hr => X14.areturnOut hx rfl hret rfl (hb hby d_method_2_79) hr) fun U eU hF => hΦ _ _ _ ?_ hF
                rw [eU, e14]
                show Q_rm2 Z x k0 k1 k5 k10 k12 k13 k14 k15 h0 n0 _ _ _
                exact ⟨by simp [own_kv, hc1, hc3, hc5, hc7, hc9, hc11, hc13], N0, rfl⟩
              · refine OGo.st (fun _ kz => XS.ifYes X0.here hx rfl (pc0 := 73) (pc' := 80) rfl (hb hby d_method_2_73) rfl (XT.ll_ne_t hc13) (by decide) (by decide) kz) ?_
                show OGo p.tables e below Φ (s₁.setTop (mkF m 80 #[.val (.long x), .second] []))
                refine OGo.st (fun _ kz => XT.lloadN X0.here hx rfl (hb hby d_method_2_80) rfl kz) ?_
                show OGo p.tables e below Φ (s₁.setTop (mkF m 81 #[.val (.long x), .second] [(.long x)]))
                refine OGo.st (fun _ kz => X0.ldc2J hx hown (mvT hZ (ow16 hw)) rfl (hb hby d_method_2_81) kz) ?_
                show OGo p.tables e below Φ (s₁.setTop (mkF m 84 #[.val (.long x), .second] [(.long (15 : Int64)), (.long x)]))
                refine OGo.st (fun _ kz => XT.lcmp X0.here hx rfl (hb hby d_method_2_84) rfl kz) ?_
                show OGo p.tables e below Φ (s₁.setTop (mkF m 85 #[.val (.long x), .second] [(.int (XT.cmpL x (15 : Int64)))]))
                by_cases hc15 : x = (15 : Int64)
                · refine OGo.st (fun _ kz => XS.ifNo X0.here hx rfl (hb hby d_method_2_85) rfl (XT.ll_ne_f hc15) kz) ?_
                  show OGo p.tables e below Φ (s₁.setTop (mkF m 88 #[.val (.long x), .second] []))
                  obtain ⟨T16, X16, e16, st16⟩ := getS2 X0 hx hZ hown (host := "") (Or.inl (ow23 hw)) Via.refl e0 S_15 (g := (mkF m 88 #[.val (.long x), .second] [])) rfl (hb hby d_method_2_88)
                  refine OGo.st st16 ?_
                  show OGo p.tables e below Φ (T16.setTop (mkF m 91 #[.val (.long x), .second] [(.ref k15)]))
                  refine OGo.fin X16 hlk (v := (some (.ref k15))) (fun h => by rw [hret] at h; cases h) (by decide) (by decide) (fun fs hr => X16.areturnOut hx rfl hret rfl (hb hby d_method_2_91) hr) fun U eU hF => hΦ _ _ _ ?_ hF
                  rw [eU, e16]
                  show Q_rm2 Z x k0 k1 k5 k10 k12 k13 k14 k15 h0 n0 _ _ _
                  exact ⟨by simp [own_kv, hc1, hc3, hc5, hc7, hc9, hc11, hc13, hc15], N0, rfl⟩
                · refine OGo.st (fun _ kz => XS.ifYes X0.here hx rfl (pc0 := 85) (pc' := 92) rfl (hb hby d_method_2_85) rfl (XT.ll_ne_t hc15) (by decide) (by decide) kz) ?_
                  show OGo p.tables e below Φ (s₁.setTop (mkF m 92 #[.val (.long x), .second] []))
                  refine OGo.st (fun _ kz => XS.aconstNull X0.here hx rfl (hb hby d_method_2_92) kz) ?_
                  show OGo p.tables e below Φ (s₁.setTop (mkF m 93 #[.val (.long x), .second] [.null]))
                  refine OGo.fin X0 hlk (v := (some .null)) (fun h => by rw [hret] at h; cases h) (by decide) (by decide) (fun fs hr => X0.areturnOut hx rfl hret rfl (hb hby d_method_2_93) hr) fun U eU hF => hΦ _ _ _ ?_ hF
                  rw [eU, e0]
                  show Q_rm2 Z x k0 k1 k5 k10 k12 k13 k14 k15 h0 n0 _ _ _
                  exact ⟨by simp [own_kv, hc1, hc3, hc5, hc7, hc9, hc11, hc13, hc15], N0, rfl⟩

theorem pd0 : parseMethodDescriptor "(J)Lcom/example/tersewire/tersewire/ValueKind;" = some ⟨[.long], some (.object "com/example/tersewire/tersewire/ValueKind")⟩ := by decide +kernel
theorem ef_rm0 (m : MethodId) (x0 : Int64) (x1 : Int32) (x2 : Int32) : entryFrame m #[(.long x0), (.int x1), (.int x2)] maxLocals = mkF m 0 #[.val (.long x0), .second, .val (.int x1), .val (.int x2), .unset, .unset, .unset, .unset] [] := by first | (simp [entryFrame, mkF, argsToLocals, Value.category, maxLocals]; done) | rfl
def Q_rm0 (Z : State) (xi : Int64) (xs : Int32) (xm : Int32) (aw : Addr) (ca : ClassId) (k0 : Addr) (k1 : Addr) (k5 : Addr) (k10 : Addr) (k12 : Addr) (k13 : Addr) (k14 : Addr) (k15 : Addr) (h0 : Heap) (n0 : Nat) (v : Option Value) (h : Heap) (L : List Loc) : Prop := v = some (.int (1 : Int32)) ∧ Fr n0 L
set_option maxRecDepth 65536 in
set_option maxHeartbeats 40000000 in
theorem rm0 (l : Launch) (Z : State) (a0 : Array Value) (hw : ∀ d ∈ tables_1, d.before a0 Z = true) (ws : List Jvm.Cond) (xi : Int64) (xs : Int32) (xm : Int32) (aw : Addr) (ca : ClassId) (k0 : Addr) (k1 : Addr) (k5 : Addr) (k10 : Addr) (k12 : Addr) (k13 : Addr) (k14 : Addr) (k15 : Addr) (h0 : Heap) (n0 : Nat) (Z0 : n0 ≤ h0.size) (S_w : Sta Z h0 "com/example/tersewire/tersewire/Wire" "PRIMITIVE_KINDS" "[Lcom/example/tersewire/tersewire/ValueKind;" (.ref aw)) (V_w : Arv Z h0 aw ca (.object "com/example/tersewire/tersewire/ValueKind") (32 : Int32) [(.ref k0), (.ref k1), .null, .null, .null, (.ref k5), .null, .null, .null, .null, (.ref k10), .null, (.ref k12), (.ref k13), (.ref k14), (.ref k15), .null, .null, .null, .null, .null, .null, .null, .null, .null, .null, .null, .null, .null, .null, .null, .null] .null) (S_0 : Sta Z h0 "com/example/tersewire/tersewire/ValueKind" "NULL" "Lcom/example/tersewire/tersewire/ValueKind;" (.ref k0)) (S_1 : Sta Z h0 "com/example/tersewire/tersewire/ValueKind" "BOOL" "Lcom/example/tersewire/tersewire/ValueKind;" (.ref k1)) (S_5 : Sta Z h0 "com/example/tersewire/tersewire/ValueKind" "INT64" "Lcom/example/tersewire/tersewire/ValueKind;" (.ref k5)) (S_10 : Sta Z h0 "com/example/tersewire/tersewire/ValueKind" "BIGINT" "Lcom/example/tersewire/tersewire/ValueKind;" (.ref k10)) (S_12 : Sta Z h0 "com/example/tersewire/tersewire/ValueKind" "FLOAT64" "Lcom/example/tersewire/tersewire/ValueKind;" (.ref k12)) (S_13 : Sta Z h0 "com/example/tersewire/tersewire/ValueKind" "DECIMAL" "Lcom/example/tersewire/tersewire/ValueKind;" (.ref k13)) (S_14 : Sta Z h0 "com/example/tersewire/tersewire/ValueKind" "STRING" "Lcom/example/tersewire/tersewire/ValueKind;" (.ref k14)) (S_15 : Sta Z h0 "com/example/tersewire/tersewire/ValueKind" "BYTES" "Lcom/example/tersewire/tersewire/ValueKind;" (.ref k15)) :
    OCon l Z x code maxLocals ret ws room_1 #[(.long xi), (.int xs), (.int xm)] h0 (Q_rm0 Z xi xs xm aw ca k0 k1 k5 k10 k12 k13 k14 k15 h0 n0) := by
  refine OCon.of (plainFor_of_name pn1) ?_
  intro p e s m below meth c s₁ Φ X0 hx hby hml hown hnm hret hlk hZ e0 hΦ
  have N0 := Fr.nil n0
  refine OGo.st (fun _ kz => castTop (ef_rm0 m xi xs xm) kz) ?_
  show OGo p.tables e below Φ (s₁.setTop (mkF m 0 #[.val (.long xi), .second, .val (.int xs), .val (.int xm), .unset, .unset, .unset, .unset] []))
  refine OGo.st (fun _ kz => XS.iloadN X0.here hx rfl (hb hby at_0) rfl kz) ?_
  show OGo p.tables e below Φ (s₁.setTop (mkF m 1 #[.val (.long xi), .second, .val (.int xs), .val (.int xm), .unset, .unset, .unset, .unset] [(.int xm)]))
  refine OGo.st (fun _ kz => XS.iconst X0.here hx rfl (hb hby at_1) kz) ?_
  show OGo p.tables e below Φ (s₁.setTop (mkF m 2 #[.val (.long xi), .second, .val (.int xs), .val (.int xm), .unset, .unset, .unset, .unset] [(.int (1 : Int32)), (.int xm)]))
  refine OGo.st (fun _ kz => XS.iand X0.here hx rfl (hb hby at_2) rfl kz) ?_
  show OGo p.tables e below Φ (s₁.setTop (mkF m 3 #[.val (.long xi), .second, .val (.int xs), .val (.int xm), .unset, .unset, .unset, .unset] [(.int (xm &&& (1 : Int32)))]))
  by_cases hc1 : (xm &&& (1 : Int32)) = 0
  · refine OGo.st (fun _ kz => XS.ifYes X0.here hx rfl (pc0 := 3) (pc' := 10) rfl (hb hby at_3) rfl (XT.i0_eq_t hc1) (by decide) (by decide) kz) ?_
    show OGo p.tables e below Φ (s₁.setTop (mkF m 10 #[.val (.long xi), .second, .val (.int xs), .val (.int xm), .unset, .unset, .unset, .unset] []))
    refine OGo.st (fun _ kz => XS.iconst X0.here hx rfl (hb hby at_10) kz) ?_
    show OGo p.tables e below Φ (s₁.setTop (mkF m 11 #[.val (.long xi), .second, .val (.int xs), .val (.int xm), .unset, .unset, .unset, .unset] [(.int (0 : Int32))]))
    refine OGo.st (fun _ kz => XS.istore X0.here hx rfl (hb hby at_11) rfl (l' := #[.val (.long xi), .second, .val (.int xs), .val (.int xm), .val (.int (0 : Int32)), .unset, .unset, .unset]) rfl kz) ?_
    show OGo p.tables e below Φ (s₁.setTop (mkF m 13 #[.val (.long xi), .second, .val (.int xs), .val (.int xm), .val (.int (0 : Int32)), .unset, .unset, .unset] []))
    refine OGo.st (fun _ kz => XS.iload X0.here hx rfl (hb hby at_13) rfl kz) ?_
    show OGo p.tables e below Φ (s₁.setTop (mkF m 15 #[.val (.long xi), .second, .val (.int xs), .val (.int xm), .val (.int (0 : Int32)), .unset, .unset, .unset] [(.int (0 : Int32))]))
    refine OGo.st (fun _ kz => XS.ifYes X0.here hx rfl (pc0 := 15) (pc' := 22) rfl (hb hby at_15) rfl (XT.i0_eq_t (by decide)) (by decide) (by decide) kz) ?_
    show OGo p.tables e below Φ (s₁.setTop (mkF m 22 #[.val (.long xi), .second, .val (.int xs), .val (.int xm), .val (.int (0 : Int32)), .unset, .unset, .unset] []))
    refine OGo.st (fun _ kz => XS.iloadN X0.here hx rfl (hb hby at_22) rfl kz) ?_
    show OGo p.tables e below Φ (s₁.setTop (mkF m 23 #[.val (.long xi), .second, .val (.int xs), .val (.int xm), .val (.int (0 : Int32)), .unset, .unset, .unset] [(.int xs)]))
    refine OGo.st (fun _ kz => XS.bipush X0.here hx rfl (hb hby at_23) kz) ?_
    show OGo p.tables e below Φ (s₁.setTop (mkF m 25 #[.val (.long xi), .second, .val (.int xs), .val (.int xm), .val (.int (0 : Int32)), .unset, .unset, .unset] [(.int (63 : Int32)), (.int xs)]))
    refine OGo.st (fun _ kz => XS.iand X0.here hx rfl (hb hby at_25) rfl kz) ?_
    show OGo p.tables e below Φ (s₁.setTop (mkF m 26 #[.val (.long xi), .second, .val (.int xs), .val (.int xm), .val (.int (0 : Int32)), .unset, .unset, .unset] [(.int (xs &&& (63 : Int32)))]))
    refine OGo.st (fun _ kz => XS.bipush X0.here hx rfl (hb hby at_26) kz) ?_
    show OGo p.tables e below Φ (s₁.setTop (mkF m 28 #[.val (.long xi), .second, .val (.int xs), .val (.int xm), .val (.int (0 : Int32)), .unset, .unset, .unset] [(.int (16 : Int32)), (.int (xs &&& (63 : Int32)))]))
    refine OGo.st (fun _ kz => XS.isub X0.here hx rfl (hb hby at_28) rfl kz) ?_
    show OGo p.tables e below Φ (s₁.setTop (mkF m 29 #[.val (.long xi), .second, .val (.int xs), .val (.int xm), .val (.int (0 : Int32)), .unset, .unset, .unset] [(.int ((xs &&& (63 : Int32)) - (16 : Int32)))]))
    refine OGo.st (fun _ kz => XT.i2l X0.here hx rfl (hb hby at_29) rfl kz) ?_
    show OGo p.tables e below Φ (s₁.setTop (mkF m 30 #[.val (.long xi), .second, .val (.int xs), .val (.int xm), .val (.int (0 : Int32)), .unset, .unset, .unset] [(.long (((xs &&& (63 : Int32)) - (16 : Int32)).toInt64))]))
    refine OGo.st (fun _ kz => XT.lstore X0.here hx rfl (hb hby at_30) rfl (l' := #[.val (.long xi), .second, .val (.int xs), .val (.int xm), .val (.int (0 : Int32)), .val (.long (((xs &&& (63 : Int32)) - (16 : Int32)).toInt64)), .second, .unset]) rfl kz) ?_
    show OGo p.tables e below Φ (s₁.setTop (mkF m 32 #[.val (.long xi), .second, .val (.int xs), .val (.int xm), .val (.int (0 : Int32)), .val (.long (((xs &&& (63 : Int32)) - (16 : Int32)).toInt64)), .second, .unset] []))
    refine OGo.st (fun _ kz => XT.lload X0.here hx rfl (hb hby at_32) rfl kz) ?_
    show OGo p.tables e below Φ (s₁.setTop (mkF m 34 #[.val (.long xi), .second, .val (.int xs), .val (.int xm), .val (.int (0 : Int32)), .val (.long (((xs &&& (63 : Int32)) - (16 : Int32)).toInt64)), .second, .unset] [(.long (((xs &&& (63 : Int32)) - (16 : Int32)).toInt64))]))
    obtain ⟨_, T2, L2, X2, hQ2, st2⟩ := own_callSt X0 hx hZ hown (ow0 hw) (ow1 hw) (ow2 hw) (ow3 hw) (by decide) (rm1 l Z a0 hw [] (((xs &&& (63 : Int32)) - (16 : Int32)).toInt64) aw ca k0 k1 k5 k10 k12 k13 k14 k15 h0 n0 Z0 S_w V_w) e0 (W := 0) (by decide) (by decide) (by decide) (by decide) (pc := 34) (ls := #[.val (.long xi), .second, .val (.int xs), .val (.int xm), .val (.int (0 : Int32)), .val (.long (((xs &&& (63 : Int32)) - (16 : Int32)).toInt64)), .second, .unset]) (stk := [(.long (((xs &&& (63 : Int32)) - (16 : Int32)).toInt64))]) (by rw [hml]; rfl) (argsL := [(.long (((xs &&& (63 : Int32)) - (16 : Int32)).toInt64))]) (rest := []) (lenOf pd0 rfl) rfl rfl (Nat.le_of_eq rfl) (hb hby at_34)
    obtain ⟨rfl, Nq2, e2⟩ := hQ2
    have N2 := Fr.app N0 Nq2
    refine OGo.st st2 ?_
    show OGo p.tables e below Φ (T2.setTop (mkF m 37 #[.val (.long xi), .second, .val (.int xs), .val (.int xm), .val (.int (0 : Int32)), .val (.long (((xs &&& (63 : Int32)) - (16 : Int32)).toInt64)), .second, .unset] [(own_kv (((xs &&& (63 : Int32)) - (16 : Int32)).toInt64) k0 k1 k5 k10 k12 k13 k14 k15)]))
    refine OGo.st (fun _ kz => XS.astore X2.here hx rfl (hb hby at_37) rfl (own_kv_ref (((xs &&& (63 : Int32)) - (16 : Int32)).toInt64) k0 k1 k5 k10 k12 k13 k14 k15) (l' := #[.val (.long xi), .second, .val (.int xs), .val (.int xm), .val (.int (0 : Int32)), .val (.long (((xs &&& (63 : Int32)) - (16 : Int32)).toInt64)), .second, .val (own_kv (((xs &&& (63 : Int32)) - (16 : Int32)).toInt64) k0 k1 k5 k10 k12 k13 k14 k15)]) (XS.store1 rfl (Or.inl rfl) (XT.cat1 (own_kv_ref (((xs &&& (63 : Int32)) - (16 : Int32)).toInt64) k0 k1 k5 k10 k12 k13 k14 k15))) kz) ?_
    show OGo p.tables e below Φ (T2.setTop (mkF m 39 #[.val (.long xi), .second, .val (.int xs), .val (.int xm), .val (.int (0 : Int32)), .val (.long (((xs &&& (63 : Int32)) - (16 : Int32)).toInt64)), .second, .val (own_kv (((xs &&& (63 : Int32)) - (16 : Int32)).toInt64) k0 k1 k5 k10 k12 k13 k14 k15)] []))
    refine OGo.st (fun _ kz => XS.aload X2.here hx rfl (hb hby at_39) rfl (own_kv_ref (((xs &&& (63 : Int32)) - (16 : Int32)).toInt64) k0 k1 k5 k10 k12 k13 k14 k15) kz) ?_
    show OGo p.tables e below Φ (T2.setTop (mkF m 41 #[.val (.long xi), .second, .val (.int xs), .val (.int xm), .val (.int (0 : Int32)), .val (.long (((xs &&& (63 : Int32)) - (16 : Int32)).toInt64)), .second, .val (own_kv (((xs &&& (63 : Int32)) - (16 : Int32)).toInt64) k0 k1 k5 k10 k12 k13 k14 k15)] [(own_kv (((xs &&& (63 : Int32)) - (16 : Int32)).toInt64) k0 k1 k5 k10 k12 k13 k14 k15)]))
    refine OGo.st (fun _ kz => XT.lload X2.here hx rfl (hb hby at_41) rfl kz) ?_
    show OGo p.tables e below Φ (T2.setTop (mkF m 43 #[.val (.long xi), .second, .val (.int xs), .val (.int xm), .val (.int (0 : Int32)), .val (.long (((xs &&& (63 : Int32)) - (16 : Int32)).toInt64)), .second, .val (own_kv (((xs &&& (63 : Int32)) - (16 : Int32)).toInt64) k0 k1 k5 k10 k12 k13 k14 k15)] [(.long (((xs &&& (63 : Int32)) - (16 : Int32)).toInt64)), (own_kv (((xs &&& (63 : Int32)) - (16 : Int32)).toInt64) k0 k1 k5 k10 k12 k13 k14 k15)]))
    obtain ⟨_, T3, L3, X3, hQ3, st3⟩ := own_callSt X2 hx hZ hown (ow7 hw) (ow8 hw) (ow9 hw) (ow10 hw) (by decide) (rm2 l Z a0 hw [] (((xs &&& (63 : Int32)) - (16 : Int32)).toInt64) k0 k1 k5 k10 k12 k13 k14 k15 h0 n0 Z0 S_0 S_1 S_5 S_10 S_12 S_13 S_14 S_15) e2 (W := 1) (by decide) (by decide) (by decide) (by decide) (pc := 43) (ls := #[.val (.long xi), .second, .val (.int xs), .val (.int xm), .val (.int (0 : Int32)), .val (.long (((xs &&& (63 : Int32)) - (16 : Int32)).toInt64)), .second, .val (own_kv (((xs &&& (63 : Int32)) - (16 : Int32)).toInt64) k0 k1 k5 k10 k12 k13 k14 k15)]) (stk := [(.long (((xs &&& (63 : Int32)) - (16 : Int32)).toInt64)), (own_kv (((xs &&& (63 : Int32)) - (16 : Int32)).toInt64) k0 k1 k5 k10 k12 k13 k14 k15)]) (by rw [hml]; rfl) (argsL := [(.long (((xs &&& (63 : Int32)) - (16 : Int32)).toInt64))]) (rest := [(own_kv (((xs &&& (63 : Int32)) - (16 : Int32)).toInt64) k0 k1 k5 k10 k12 k13 k14 k15)]) (lenOf pd0 rfl) rfl rfl (by rw [List.map_cons, XT.cat1 (own_kv_ref (((xs &&& (63 : Int32)) - (16 : Int32)).toInt64) k0 k1 k5 k10 k12 k13 k14 k15)]; exact Nat.le_of_eq rfl) (hb hby at_43)
    obtain ⟨rfl, Nq3, e3⟩ := hQ3
    have N3 := Fr.app N2 Nq3
    refine OGo.st st3 ?_
    show OGo p.tables e below Φ (T3.setTop (mkF m 46 #[.val (.long xi), .second, .val (.int xs), .val (.int xm), .val (.int (0 : Int32)), .val (.long (((xs &&& (63 : Int32)) - (16 : Int32)).toInt64)), .second, .val (own_kv (((xs &&& (63 : Int32)) - (16 : Int32)).toInt64) k0 k1 k5 k10 k12 k13 k14 k15)] [(own_kv (((xs &&& (63 : Int32)) - (16 : Int32)).toInt64) k0 k1 k5 k10 k12 k13 k14 k15), (own_kv (((xs &&& (63 : Int32)) - (16 : Int32)).toInt64) k0 k1 k5 k10 k12 k13 k14 k15)]))
    refine OGo.st (fun _ kz => XT.acmpNo X3.here hx rfl (hb hby at_46) rfl (own_kv_ref (((xs &&& (63 : Int32)) - (16 : Int32)).toInt64) k0 k1 k5 k10 k12 k13 k14 k15) (own_kv_ref (((xs &&& (63 : Int32)) - (16 : Int32)).toInt64) k0 k1 k5 k10 k12 k13 k14 k15) (XT.aa_ne_f rfl) kz) ?_
    show OGo p.tables e below Φ (T3.setTop (mkF m 49 #[.val (.long xi), .second, .val (.int xs), .val (.int xm), .val (.int (0 : Int32)), .val (.long (((xs &&& (63 : Int32)) - (16 : Int32)).toInt64)), .second, .val (own_kv (((xs &&& (63 : Int32)) - (16 : Int32)).toInt64) k0 k1 k5 k10 k12 k13 k14 k15)] []))
    refine OGo.st (fun _ kz => XS.iconst X3.here hx rfl (hb hby at_49) kz) ?_
    show OGo p.tables e below Φ (T3.setTop (mkF m 50 #[.val (.long xi), .second, .val (.int xs), .val (.int xm), .val (.int (0 : Int32)), .val (.long (((xs &&& (63 : Int32)) - (16 : Int32)).toInt64)), .second, .val (own_kv (((xs &&& (63 : Int32)) - (16 : Int32)).toInt64) k0 k1 k5 k10 k12 k13 k14 k15)] [(.int (1 : Int32))]))
    refine OGo.st (fun _ kz => XS.goto X3.here hx rfl (pc0 := 50) (pc' := 54) rfl (hb hby at_50) (by decide) (by decide) kz) ?_
    show OGo p.tables e below Φ (T3.setTop (mkF m 54 #[.val (.long xi), .second, .val (.int xs), .val (.int xm), .val (.int (0 : Int32)), .val (.long (((xs &&& (63 : Int32)) - (16 : Int32)).toInt64)), .second, .val (own_kv (((xs &&& (63 : Int32)) - (16 : Int32)).toInt64) k0 k1 k5 k10 k12 k13 k14 k15)] [(.int (1 : Int32))]))
    refine OGo.fin X3 hlk (v := (some (.int (1 : Int32)))) (fun h => by rw [hret] at h; cases h) (by decide) (by decide) (fun fs hr => X3.ireturnOut hx hret rfl (by simp) (hb hby at_54) hr) fun U eU hF => hΦ _ _ _ ?_ hF
    rw [eU, e3]
    show Q_rm0 Z xi xs xm aw ca k0 k1 k5 k10 k12 k13 k14 k15 h0 n0 _ _ _
    exact ⟨rfl, N3⟩
  · refine OGo.st (fun _ kz => XS.ifNo X0.here hx rfl (hb hby at_3) rfl (XT.i0_eq_f hc1) kz) ?_
    show OGo p.tables e below Φ (s₁.setTop (mkF m 6 #[.val (.long xi), .second, .val (.int xs), .val (.int xm), .unset, .unset, .unset, .unset] []))
    refine OGo.st (fun _ kz => XS.iconst X0.here hx rfl (hb hby at_6) kz) ?_
    show OGo p.tables e below Φ (s₁.setTop (mkF m 7 #[.val (.long xi), .second, .val (.int xs), .val (.int xm), .unset, .unset, .unset, .unset] [(.int (1 : Int32))]))
    refine OGo.st (fun _ kz => XS.goto X0.here hx rfl (pc0 := 7) (pc' := 11) rfl (hb hby at_7) (by decide) (by decide) kz) ?_
    show OGo p.tables e below Φ (s₁.setTop (mkF m 11 #[.val (.long xi), .second, .val (.int xs), .val (.int xm), .unset, .unset, .unset, .unset] [(.int (1 : Int32))]))
    refine OGo.st (fun _ kz => XS.istore X0.here hx rfl (hb hby at_11) rfl (l' := #[.val (.long xi), .second, .val (.int xs), .val (.int xm), .val (.int (1 : Int32)), .unset, .unset, .unset]) rfl kz) ?_
    show OGo p.tables e below Φ (s₁.setTop (mkF m 13 #[.val (.long xi), .second, .val (.int xs), .val (.int xm), .val (.int (1 : Int32)), .unset, .unset, .unset] []))
    refine OGo.st (fun _ kz => XS.iload X0.here hx rfl (hb hby at_13) rfl kz) ?_
    show OGo p.tables e below Φ (s₁.setTop (mkF m 15 #[.val (.long xi), .second, .val (.int xs), .val (.int xm), .val (.int (1 : Int32)), .unset, .unset, .unset] [(.int (1 : Int32))]))
    refine OGo.st (fun _ kz => XS.ifNo X0.here hx rfl (hb hby at_15) rfl (XT.i0_eq_f (by decide)) kz) ?_
    show OGo p.tables e below Φ (s₁.setTop (mkF m 18 #[.val (.long xi), .second, .val (.int xs), .val (.int xm), .val (.int (1 : Int32)), .unset, .unset, .unset] []))
    refine OGo.st (fun _ kz => XT.lloadN X0.here hx rfl (hb hby at_18) rfl kz) ?_
    show OGo p.tables e below Φ (s₁.setTop (mkF m 19 #[.val (.long xi), .second, .val (.int xs), .val (.int xm), .val (.int (1 : Int32)), .unset, .unset, .unset] [(.long xi)]))
    refine OGo.st (fun _ kz => XS.goto X0.here hx rfl (pc0 := 19) (pc' := 30) rfl (hb hby at_19) (by decide) (by decide) kz) ?_
    show OGo p.tables e below Φ (s₁.setTop (mkF m 30 #[.val (.long xi), .second, .val (.int xs), .val (.int xm), .val (.int (1 : Int32)), .unset, .unset, .unset] [(.long xi)]))
    refine OGo.st (fun _ kz => XT.lstore X0.here hx rfl (hb hby at_30) rfl (l' := #[.val (.long xi), .second, .val (.int xs), .val (.int xm), .val (.int (1 : Int32)), .val (.long xi), .second, .unset]) rfl kz) ?_
    show OGo p.tables e below Φ (s₁.setTop (mkF m 32 #[.val (.long xi), .second, .val (.int xs), .val (.int xm), .val (.int (1 : Int32)), .val (.long xi), .second, .unset] []))
    refine OGo.st (fun _ kz => XT.lload X0.here hx rfl (hb hby at_32) rfl kz) ?_
    show OGo p.tables e below Φ (s₁.setTop (mkF m 34 #[.val (.long xi), .second, .val (.int xs), .val (.int xm), .val (.int (1 : Int32)), .val (.long xi), .second, .unset] [(.long xi)]))
    obtain ⟨_, T4, L4, X4, hQ4, st4⟩ := own_callSt X0 hx hZ hown (ow0 hw) (ow1 hw) (ow2 hw) (ow3 hw) (by decide) (rm1 l Z a0 hw [] xi aw ca k0 k1 k5 k10 k12 k13 k14 k15 h0 n0 Z0 S_w V_w) e0 (W := 0) (by decide) (by decide) (by decide) (by decide) (pc := 34) (ls := #[.val (.long xi), .second, .val (.int xs), .val (.int xm), .val (.int (1 : Int32)), .val (.long xi), .second, .unset]) (stk := [(.long xi)]) (by rw [hml]; rfl) (argsL := [(.long xi)]) (rest := []) (lenOf pd0 rfl) rfl rfl (Nat.le_of_eq rfl) (hb hby at_34)
    obtain ⟨rfl, Nq4, e4⟩ := hQ4
    have N4 := Fr.app N0 Nq4
    refine OGo.st st4 ?_
    show OGo p.tables e below Φ (T4.setTop (mkF m 37 #[.val (.long xi), .second, .val (.int xs), .val (.int xm), .val (.int (1 : Int32)), .val (.long xi), .second, .unset] [(own_kv xi k0 k1 k5 k10 k12 k13 k14 k15)]))
    refine OGo.st (fun _ kz => XS.astore X4.here hx rfl (hb hby at_37) rfl (own_kv_ref xi k0 k1 k5 k10 k12 k13 k14 k15) (l' := #[.val (.long xi), .second, .val (.int xs), .val (.int xm), .val (.int (1 : Int32)), .val (.long xi), .second, .val (own_kv xi k0 k1 k5 k10 k12 k13 k14 k15)]) (XS.store1 rfl (Or.inl rfl) (XT.cat1 (own_kv_ref xi k0 k1 k5 k10 k12 k13 k14 k15))) kz) ?_
    show OGo p.tables e below Φ (T4.setTop (mkF m 39 #[.val (.long xi), .second, .val (.int xs), .val (.int xm), .val (.int (1 : Int32)), .val (.long xi), .second, .val (own_kv xi k0 k1 k5 k10 k12 k13 k14 k15)] []))
    refine OGo.st (fun _ kz => XS.aload X4.here hx rfl (hb hby at_39) rfl (own_kv_ref xi k0 k1 k5 k10 k12 k13 k14 k15) kz) ?_
    show OGo p.tables e below Φ (T4.setTop (mkF m 41 #[.val (.long xi), .second, .val (.int xs), .val (.int xm), .val (.int (1 : Int32)), .val (.long xi), .second, .val (own_kv xi k0 k1 k5 k10 k12 k13 k14 k15)] [(own_kv xi k0 k1 k5 k10 k12 k13 k14 k15)]))
    refine OGo.st (fun _ kz => XT.lload X4.here hx rfl (hb hby at_41) rfl kz) ?_
    show OGo p.tables e below Φ (T4.setTop (mkF m 43 #[.val (.long xi), .second, .val (.int xs), .val (.int xm), .val (.int (1 : Int32)), .val (.long xi), .second, .val (own_kv xi k0 k1 k5 k10 k12 k13 k14 k15)] [(.long xi), (own_kv xi k0 k1 k5 k10 k12 k13 k14 k15)]))
    obtain ⟨_, T5, L5, X5, hQ5, st5⟩ := own_callSt X4 hx hZ hown (ow7 hw) (ow8 hw) (ow9 hw) (ow10 hw) (by decide) (rm2 l Z a0 hw [] xi k0 k1 k5 k10 k12 k13 k14 k15 h0 n0 Z0 S_0 S_1 S_5 S_10 S_12 S_13 S_14 S_15) e4 (W := 1) (by decide) (by decide) (by decide) (by decide) (pc := 43) (ls := #[.val (.long xi), .second, .val (.int xs), .val (.int xm), .val (.int (1 : Int32)), .val (.long xi), .second, .val (own_kv xi k0 k1 k5 k10 k12 k13 k14 k15)]) (stk := [(.long xi), (own_kv xi k0 k1 k5 k10 k12 k13 k14 k15)]) (by rw [hml]; rfl) (argsL := [(.long xi)]) (rest := [(own_kv xi k0 k1 k5 k10 k12 k13 k14 k15)]) (lenOf pd0 rfl) rfl rfl (by rw [List.map_cons, XT.cat1 (own_kv_ref xi k0 k1 k5 k10 k12 k13 k14 k15)]; exact Nat.le_of_eq rfl) (hb hby at_43)
    obtain ⟨rfl, Nq5, e5⟩ := hQ5
    have N5 := Fr.app N4 Nq5
    refine OGo.st st5 ?_
    show OGo p.tables e below Φ (T5.setTop (mkF m 46 #[.val (.long xi), .second, .val (.int xs), .val (.int xm), .val (.int (1 : Int32)), .val (.long xi), .second, .val (own_kv xi k0 k1 k5 k10 k12 k13 k14 k15)] [(own_kv xi k0 k1 k5 k10 k12 k13 k14 k15), (own_kv xi k0 k1 k5 k10 k12 k13 k14 k15)]))
    refine OGo.st (fun _ kz => XT.acmpNo X5.here hx rfl (hb hby at_46) rfl (own_kv_ref xi k0 k1 k5 k10 k12 k13 k14 k15) (own_kv_ref xi k0 k1 k5 k10 k12 k13 k14 k15) (XT.aa_ne_f rfl) kz) ?_
    show OGo p.tables e below Φ (T5.setTop (mkF m 49 #[.val (.long xi), .second, .val (.int xs), .val (.int xm), .val (.int (1 : Int32)), .val (.long xi), .second, .val (own_kv xi k0 k1 k5 k10 k12 k13 k14 k15)] []))
    refine OGo.st (fun _ kz => XS.iconst X5.here hx rfl (hb hby at_49) kz) ?_
    show OGo p.tables e below Φ (T5.setTop (mkF m 50 #[.val (.long xi), .second, .val (.int xs), .val (.int xm), .val (.int (1 : Int32)), .val (.long xi), .second, .val (own_kv xi k0 k1 k5 k10 k12 k13 k14 k15)] [(.int (1 : Int32))]))
    refine OGo.st (fun _ kz => XS.goto X5.here hx rfl (pc0 := 50) (pc' := 54) rfl (hb hby at_50) (by decide) (by decide) kz) ?_
    show OGo p.tables e below Φ (T5.setTop (mkF m 54 #[.val (.long xi), .second, .val (.int xs), .val (.int xm), .val (.int (1 : Int32)), .val (.long xi), .second, .val (own_kv xi k0 k1 k5 k10 k12 k13 k14 k15)] [(.int (1 : Int32))]))
    refine OGo.fin X5 hlk (v := (some (.int (1 : Int32)))) (fun h => by rw [hret] at h; cases h) (by decide) (by decide) (fun fs hr => X5.ireturnOut hx hret rfl (by simp) (hb hby at_54) hr) fun U eU hF => hΦ _ _ _ ?_ hF
    rw [eU, e5]
    show Q_rm0 Z xi xs xm aw ca k0 k1 k5 k10 k12 k13 k14 k15 h0 n0 _ _ _
    exact ⟨rfl, N5⟩

set_option maxRecDepth 65536 in
set_option maxHeartbeats 40000000 in
theorem comes_1 {Post : Tables → Env → Array Value → State → Outcome → State → Prop} (hpost : ∀ tb e args s v u, (limb_1_1.after args s (.returned v) u = true ∧ limb_1_2.after args s (.returned v) u = true ∧ True) → FrameEnd s (.returned v) u (Jvm.fieldLocs frame_1_writes args s ++ Jvm.arrayLocs frame_1_arrays args s ++ Jvm.staticLocs frame_1_statics s) 0 0 → Post tb e args s (.returned v) u) :
    ArmFor flags0 classFile x code maxLocals ret World_1 tables_1 room_1 Calls_1 rest_1 Pre_1 Post := by
  intro l hfl _ _ p e ha hc hk s m args below hf hA hF happ hP
  obtain ⟨hcalls, hrest, hpre⟩ := hP
  obtain ⟨-, -, -, hnamed, -, -, -, hat⟩ := (Spec.applies_iff hf).mp happ
  obtain ⟨hg, hn⟩ := and_e (Cond.before_iff.mp (show (Jvm.Cond.and given_1 narrow_1).before args s = true from hpre))
  obtain ⟨g0, r0⟩ := and_e hg
  obtain ⟨k0, r1⟩ := and_e r0
  obtain ⟨k1, r2⟩ := and_e r1
  have k2 := r2
  obtain ⟨w0, w1, w2, rfl⟩ : ∃ w0 w1 w2 : Value, args = #[w0, w1, w2] := by
    have hs : args.size = 3 := by simpa [Cond.value, given_1] using g0
    obtain ⟨L⟩ := args
    match L, hs with
    | [w0, w1, w2], _ => exact ⟨w0, w1, w2, rfl⟩
  have hw := fun d (hd : d ∈ tables_1) => atoms_spec (ws := Jvm.Cond.code x code maxLocals ret :: tables_1) hat d (List.mem_cons_of_mem _ hd)
  have hfit : Fit s := fun {y c} hc i hi => by
    obtain ⟨ha, rfl⟩ := Array.getElem?_eq_some_iff.mp hc
    have q := List.all_eq_true.mp ((Array.all_eq_true_iff_forall_mem.mp hF) _ (Array.getElem_mem ha)) i (List.mem_range.mpr hi)
    simpa [Array.getElem?_eq_getElem hi] using q
  obtain ⟨i0, ei0⟩ := isL_v k0
  obtain rfl : w0 = (.long i0) := Option.some.inj ei0
  obtain ⟨i1, ei1⟩ := is_v k1
  obtain rfl : w1 = (.int i1) := Option.some.inj ei1
  obtain ⟨i2, ei2⟩ := is_v k2
  obtain rfl : w2 = (.int i2) := Option.some.inj ei2
  obtain ⟨m0, hn0⟩ := and_e hn
  obtain ⟨m1, hn1⟩ := and_e hn0
  obtain ⟨m2, hn2⟩ := and_e hn1
  obtain ⟨m3, hn3⟩ := and_e hn2
  obtain ⟨m4, hn4⟩ := and_e hn3
  obtain ⟨m5, hn5⟩ := and_e hn4
  obtain ⟨m6, hn6⟩ := and_e hn5
  obtain ⟨m7, hn7⟩ := and_e hn6
  obtain ⟨m8, hn8⟩ := and_e hn7
  obtain ⟨m9, hn9⟩ := and_e hn8
  obtain ⟨m10, hn10⟩ := and_e hn9
  obtain ⟨m11, hn11⟩ := and_e hn10
  obtain ⟨m12, hn12⟩ := and_e hn11
  obtain ⟨m13, hn13⟩ := and_e hn12
  obtain ⟨m14, hn14⟩ := and_e hn13
  obtain ⟨m15, hn15⟩ := and_e hn14
  obtain ⟨m16, hn16⟩ := and_e hn15
  obtain ⟨m17, hn17⟩ := and_e hn16
  obtain ⟨m18, hn18⟩ := and_e hn17
  obtain ⟨m19, hn19⟩ := and_e hn18
  obtain ⟨m20, hn20⟩ := and_e hn19
  obtain ⟨m21, hn21⟩ := and_e hn20
  obtain ⟨m22, hn22⟩ := and_e hn21
  obtain ⟨m23, hn23⟩ := and_e hn22
  obtain ⟨m24, hn24⟩ := and_e hn23
  obtain ⟨m25, hn25⟩ := and_e hn24
  obtain ⟨m26, hn26⟩ := and_e hn25
  obtain ⟨m27, hn27⟩ := and_e hn26
  obtain ⟨m28, hn28⟩ := and_e hn27
  obtain ⟨m29, hn29⟩ := and_e hn28
  obtain ⟨m30, hn30⟩ := and_e hn29
  obtain ⟨m31, hn31⟩ := and_e hn30
  obtain ⟨m32, hn32⟩ := and_e hn31
  obtain ⟨m33, hn33⟩ := and_e hn32
  obtain ⟨m34, hn34⟩ := and_e hn33
  obtain ⟨m35, hn35⟩ := and_e hn34
  obtain ⟨m36, hn36⟩ := and_e hn35
  obtain ⟨m37, hn37⟩ := and_e hn36
  obtain ⟨m38, hn38⟩ := and_e hn37
  obtain ⟨m39, hn39⟩ := and_e hn38
  obtain ⟨m40, hn40⟩ := and_e hn39
  have m41 := hn40
  obtain ⟨s_ValueKind_BOOL, v_ValueKind_BOOL⟩ := exa_v m3
  have E_ValueKind_BOOL := Exa.start v_ValueKind_BOOL m3
  have S_ValueKind_BOOL := Sta.start v_ValueKind_BOOL (Or.inr ⟨(ow17 hw), (ow18 hw)⟩)
  obtain ⟨s_ValueKind_DECIMAL, v_ValueKind_DECIMAL⟩ := exa_v m5
  have E_ValueKind_DECIMAL := Exa.start v_ValueKind_DECIMAL m5
  have S_ValueKind_DECIMAL := Sta.start v_ValueKind_DECIMAL (Or.inr ⟨(ow17 hw), (ow20 hw)⟩)
  obtain ⟨s_ValueKind_BYTES, v_ValueKind_BYTES⟩ := exa_v m7
  have E_ValueKind_BYTES := Exa.start v_ValueKind_BYTES m7
  have S_ValueKind_BYTES := Sta.start v_ValueKind_BYTES (Or.inr ⟨(ow17 hw), (ow22 hw)⟩)
  obtain ⟨s_ValueKind_NULL, v_ValueKind_NULL⟩ := exa_v m12
  have E_ValueKind_NULL := Exa.start v_ValueKind_NULL m12
  have S_ValueKind_NULL := Sta.start v_ValueKind_NULL (Or.inr ⟨(ow17 hw), (ow24 hw)⟩)
  obtain ⟨s_ValueKind_FLOAT64, v_ValueKind_FLOAT64⟩ := exa_v m16
  have E_ValueKind_FLOAT64 := Exa.start v_ValueKind_FLOAT64 m16
  have S_ValueKind_FLOAT64 := Sta.start v_ValueKind_FLOAT64 (Or.inr ⟨(ow17 hw), (ow26 hw)⟩)
  obtain ⟨s_ValueKind_BIGINT, v_ValueKind_BIGINT⟩ := exa_v m18
  have E_ValueKind_BIGINT := Exa.start v_ValueKind_BIGINT m18
  have S_ValueKind_BIGINT := Sta.start v_ValueKind_BIGINT (Or.inr ⟨(ow17 hw), (ow28 hw)⟩)
  obtain ⟨s_ValueKind_INT64, v_ValueKind_INT64⟩ := exa_v m20
  have E_ValueKind_INT64 := Exa.start v_ValueKind_INT64 m20
  have S_ValueKind_INT64 := Sta.start v_ValueKind_INT64 (Or.inr ⟨(ow17 hw), (ow30 hw)⟩)
  obtain ⟨s_ValueKind_STRING, v_ValueKind_STRING⟩ := exa_v m37
  have E_ValueKind_STRING := Exa.start v_ValueKind_STRING m37
  have S_ValueKind_STRING := Sta.start v_ValueKind_STRING (Or.inr ⟨(ow17 hw), (ow32 hw)⟩)
  obtain ⟨s_W, v_W⟩ := arr_v m0
  obtain ⟨cl, A_W⟩ := Arr.start v_W m0
  have S_W := Sta.start v_W (Or.inr ⟨(ow2 hw), (ow6 hw)⟩)
  obtain ⟨l1, l2⟩ := own_lenI v_W A_W m1
  have V_W : Arv s s.heap s_W cl.cls (.object "com/example/tersewire/tersewire/ValueKind") (32 : Int32) [(.ref s_ValueKind_NULL), (.ref s_ValueKind_BOOL), .null, .null, .null, (.ref s_ValueKind_INT64), .null, .null, .null, .null, (.ref s_ValueKind_BIGINT), .null, (.ref s_ValueKind_FLOAT64), (.ref s_ValueKind_DECIMAL), (.ref s_ValueKind_STRING), (.ref s_ValueKind_BYTES), .null, .null, .null, .null, .null, .null, .null, .null, .null, .null, .null, .null, .null, .null, .null, .null] .null := Arv.start hfit A_W l1 l2 (by decide) (by show _ = 32; decide) ⟨own_elem v_W A_W v_ValueKind_NULL rfl (by decide) m13, own_elem v_W A_W v_ValueKind_BOOL rfl (by decide) m4, own_elem v_W A_W null_at rfl (by decide) m22, own_elem v_W A_W null_at rfl (by decide) m2, own_elem v_W A_W null_at rfl (by decide) m28, own_elem v_W A_W v_ValueKind_INT64 rfl (by decide) m21, own_elem v_W A_W null_at rfl (by decide) m35, own_elem v_W A_W null_at rfl (by decide) m11, own_elem v_W A_W null_at rfl (by decide) m26, own_elem v_W A_W null_at rfl (by decide) m9, own_elem v_W A_W v_ValueKind_BIGINT rfl (by decide) m19, own_elem v_W A_W null_at rfl (by decide) m29, own_elem v_W A_W v_ValueKind_FLOAT64 rfl (by decide) m17, own_elem v_W A_W v_ValueKind_DECIMAL rfl (by decide) m6, own_elem v_W A_W v_ValueKind_STRING rfl (by decide) m38, own_elem v_W A_W v_ValueKind_BYTES rfl (by decide) m8, own_elem v_W A_W null_at rfl (by decide) m41, own_elem v_W A_W null_at rfl (by decide) m36, own_elem v_W A_W null_at rfl (by decide) m14, own_elem v_W A_W null_at rfl (by decide) m25, own_elem v_W A_W null_at rfl (by decide) m32, own_elem v_W A_W null_at rfl (by decide) m30, own_elem v_W A_W null_at rfl (by decide) m31, own_elem v_W A_W null_at rfl (by decide) m15, own_elem v_W A_W null_at rfl (by decide) m33, own_elem v_W A_W null_at rfl (by decide) m40, own_elem v_W A_W null_at rfl (by decide) m23, own_elem v_W A_W null_at rfl (by decide) m27, own_elem v_W A_W null_at rfl (by decide) m10, own_elem v_W A_W null_at rfl (by decide) m34, own_elem v_W A_W null_at rfl (by decide) m39, own_elem v_W A_W null_at rfl (by decide) m24, trivial⟩
  obtain ⟨n, o, h1, h2, h3, _, L, rfl, ⟨rfl, N⟩, hq⟩ := rm0 l s _ hw tables_1 i0 i1 i2 s_W cl.cls s_ValueKind_NULL s_ValueKind_BOOL s_ValueKind_INT64 s_ValueKind_BIGINT s_ValueKind_FLOAT64 s_ValueKind_DECIMAL s_ValueKind_STRING s_ValueKind_BYTES s.heap s.heap.size (Nat.le_refl _) S_W V_W S_ValueKind_NULL S_ValueKind_BOOL S_ValueKind_INT64 S_ValueKind_BIGINT S_ValueKind_FLOAT64 S_ValueKind_DECIMAL S_ValueKind_STRING S_ValueKind_BYTES p e ha hc hk s m _ below hf ((Spec.applies_iff_loose hf).mp happ).1 ⟨rfl, State.Warmed39.refl s, rfl⟩ trivial
  refine ⟨n, _, h1, h2, h3, hpost _ _ _ _ _ _ ⟨Cond.after_iff.mpr rfl, Cond.after_iff.mpr (eq_i res_at (Term.int_eval (1)) rfl), trivial⟩ ⟨hq.1, hq.2.1, (hq.2.2.sift fun y hy => Or.inr (N y hy)).mono (by decide) (by decide)⟩⟩
theorem main_1_1 : Claimed_1_1 := comes_1 fun _ _ _ _ _ _ h hF => ⟨h.1, hF⟩
theorem main_1_2 : Claimed_1_2 := comes_1 fun _ _ _ _ _ _ h hF => ⟨h.2.1, hF⟩
end Jvm.Pilot.@@N@@
namespace Jvm.Pilot.@@N@@
open Jvm Jvm.ClassFile Sem Op Lib Jvm.Free Jvm.Stand Jvm.Pilot.@@N@@.Jvm.D
/-! MADE BY PROGRAM (witnessworld.py) out of the Statement's table words and the real class files: 14 classes; the members and pool entries that the words name. The judged class is class 1, her method 2. -/
namespace start1
open Jvm.ClassFile
def u (s : String) : CpInfo := .utf8 (stringToUtf16 s)
/-- a pool by its gaps: so many unusable entries, then the entry; so many at the end -/
def gap : Nat → List CpInfo → List CpInfo
  | 0, r => r
  | n + 1, r => .unusable :: gap n r
def poolList (es : List (Nat × CpInfo)) (last : Nat) : List CpInfo := es.foldr (fun e r => gap e.1 (e.2 :: r)) (gap last [])
def pool (es : List (Nat × CpInfo)) (last : Nat) : Array CpInfo := ⟨poolList es last⟩
def fileOf (pool : Array CpInfo) (this : Nat) (attrs : Array Attribute := #[]) (ms : Array MethodInfo := #[]) (fl : Nat := 33) (sup : Nat := 0) (ifs : Array Nat := #[]) (fds : Array FieldInfo := #[]) : ClassFile where
  minorVersion := 0
  majorVersion := 65
  constantPool := pool
  accessFlags := fl
  thisClass := this
  superClass := sup
  interfaces := ifs
  fields := fds
  methods := ms
  attributes := attrs
def plain (name : String) (sup : Option ClassId) : Class where
  name := name
  kind := .ordinary
  loader := none
  accessFlags := 33
  super := sup
  interfaces := #[]
  cf := none
  fields := #[]
  methods := #[]
  instanceTypes := #[]
  staticTypes := #[]
  resolved := #[]
  callSites := []
  init := .initialized
  statics := none
  mirror := none

def pool0 : Array CpInfo := pool [(5, u "<init>"), (0, u "()V"), (1, .class_ 10), (1, u "java/lang/Object")] 113

def k0m0 : Method := { name := "<init>", desc := "()V", sig := { parameters := [], returnType := none }, accessFlags := 1, code := none }
/-- java/lang/Object -/
def k0 : Class := { plain "java/lang/Object" none with
  accessFlags := 33
  interfaces := #[]
  cf := some (fileOf pool0 8 #[] #[{ accessFlags := 1, nameIndex := 5, descriptorIndex := 6, attributes := #[] }] 33 0 #[] #[])
  fields := #[]
  methods := #[k0m0]
  instanceTypes := #[]
  staticTypes := #[]
  resolved := Array.replicate 124 none
  statics := none }

def pool1 : Array CpInfo := pool [(2, .class_ 4), (1, u "java/lang/Object"), (0, u "<init>"), (0, u "()V"), (0, .fieldref 8 9), (0, .class_ 10), (0, .nameAndType 11 12), (0, u "com/example/tersewire/tersewire/ValueKind"), (0, u "NULL"), (0, u "Lcom/example/tersewire/tersewire/ValueKind;"), (0, .fieldref 8 14), (0, .nameAndType 15 12), (0, u "BOOL"), (0, .long 5), (1, .fieldref 8 19), (0, .nameAndType 20 12), (0, u "INT64"), (0, .long 10), (1, .fieldref 8 24), (0, .nameAndType 25 12), (0, u "BIGINT"), (0, .long 12), (1, .fieldref 8 29), (0, .nameAndType 30 12), (0, u "FLOAT64"), (0, .long 13), (1, .fieldref 8 34), (0, .nameAndType 35 12), (0, u "DECIMAL"), (0, .long 14), (1, .fieldref 8 39), (0, .nameAndType 40 12), (0, u "STRING"), (0, .long 15), (1, .fieldref 8 44), (0, .nameAndType 45 12), (0, u "BYTES"), (0, .methodref 47 48), (0, .class_ 49), (0, .nameAndType 50 51), (0, u "com/example/tersewire/tersewire/Wire"), (0, u "primitiveKind"), (0, u "(J)Lcom/example/tersewire/tersewire/ValueKind;"), (0, .methodref 53 54), (0, .class_ 55), (0, .nameAndType 56 51), (0, u "com/example/tersewire/tersewire/WirePrimitiveKindPinLaw"), (0, u "expected"), (3, u "law"), (0, u "(JII)Z")] 2

def k1m0 : Method := { name := "<init>", desc := "()V", sig := { parameters := [], returnType := none }, accessFlags := 2, code := none }
def k1c1 : Code := { maxStack := 4, maxLocals := 2, code := method_2_code, exceptionTable := #[], attributes := #[] }
def k1m1 : Method := { name := "expected", desc := "(J)Lcom/example/tersewire/tersewire/ValueKind;", sig := { parameters := [.long], returnType := some (.object "com/example/tersewire/tersewire/ValueKind") }, accessFlags := 10, code := some k1c1 }
def k1c2 : Code := { maxStack := 3, maxLocals := 8, code := code, exceptionTable := #[], attributes := #[] }
def k1m2 : Method := { name := "law", desc := "(JII)Z", sig := { parameters := [.long, .int, .int], returnType := some .boolean }, accessFlags := 9, code := some k1c2 }
/-- com/example/tersewire/tersewire/WirePrimitiveKindPinLaw -/
def k1 : Class := { plain "com/example/tersewire/tersewire/WirePrimitiveKindPinLaw" (some 0) with
  accessFlags := 49
  interfaces := #[]
  cf := some (fileOf pool1 53 #[] #[{ accessFlags := 2, nameIndex := 5, descriptorIndex := 6, attributes := #[] }, { accessFlags := 10, nameIndex := 56, descriptorIndex := 51, attributes := #[] }, { accessFlags := 9, nameIndex := 60, descriptorIndex := 61, attributes := #[] }] 49 2 #[] #[])
  fields := #[]
  methods := #[k1m0, k1m1, k1m2]
  instanceTypes := #[]
  staticTypes := #[]
  resolved := Array.replicate 64 none
  statics := none }

def pool2 : Array CpInfo := pool [(1, .class_ 2), (0, u "com/example/tersewire/tersewire/Wire"), (3, .class_ 8), (1, u "java/lang/Object"), (0, u "<init>"), (0, u "()V"), (1, .class_ 14), (1, u "com/example/tersewire/tersewire/Wire$1"), (31, .long 32), (1, .fieldref 1 49), (0, .nameAndType 50 51), (0, u "PRIMITIVE_KINDS"), (0, u "[Lcom/example/tersewire/tersewire/ValueKind;"), (43, u "START"), (0, u "[B"), (8, u "END"), (0, u "I"), (2, u "TYPES_FRAME"), (1, u "VALUES_FRAME"), (1, u "FIRST_ANCILLARY_FRAME"), (1, u "LAST_ANCILLARY_FRAME"), (1, u "RECORD_DEFINITION"), (0, u "ARRAY_DEFINITION"), (0, u "UNION_DEFINITION"), (1, u "FIRST_DEFINED_ID"), (0, u "NULL_TYPE"), (1, u "BOOL_TYPE"), (0, u "INT64_TYPE"), (1, u "BIGINT_TYPE"), (1, u "FLOAT64_TYPE"), (1, u "DECIMAL_TYPE"), (1, u "STRING_TYPE"), (1, u "BYTES_TYPE"), (1, u "MAX_DEPTH"), (1, u "MAX_BODILESS_VALUES"), (1, u "MAX_TYPES"), (0, u "MAX_NAMES"), (0, u "MAX_NAME_BYTES"), (1, u "NAME_TABLE_FULL"), (0, u "Ljava/lang/String;"), (2, u "MAX_DEFINITION_BYTES"), (1, u "DEFINITIONS_FULL"), (2, u "VALUE_TOO_LONG"), (2, u "VALUES_FRAME_TARGET"), (0, u "MAX_REMEMBERED_STRING_BYTES"), (1, u "MAX_REMEMBERED_STRINGS"), (1, u "MAX_VARINT_BYTES"), (0, u "MAX_LONG_DIGITS"), (1, u "MAX_BIG_INTEGER_BYTES"), (1, u "CANONICAL_NAN"), (0, u "J"), (2, u "FLOAT64_MAX_BYTES"), (0, u "FLOAT64_TENTH_BYTE"), (5, u "primitiveKind"), (0, u "(J)Lcom/example/tersewire/tersewire/ValueKind;")] 30

def k2m0 : Method := { name := "<init>", desc := "()V", sig := { parameters := [], returnType := none }, accessFlags := 2, code := none }
def k2c1 : Code := { maxStack := 4, maxLocals := 2, code := prog_32_method_4_code, exceptionTable := #[], attributes := #[] }
def k2m1 : Method := { name := "primitiveKind", desc := "(J)Lcom/example/tersewire/tersewire/ValueKind;", sig := { parameters := [.long], returnType := some (.object "com/example/tersewire/tersewire/ValueKind") }, accessFlags := 8, code := some k2c1 }
/-- com/example/tersewire/tersewire/Wire -/
def k2 : Class := { plain "com/example/tersewire/tersewire/Wire" (some 0) with
  accessFlags := 48
  interfaces := #[]
  cf := some (fileOf pool2 1 #[.nestMembers #[12]] #[{ accessFlags := 2, nameIndex := 9, descriptorIndex := 10, attributes := #[] }, { accessFlags := 8, nameIndex := 178, descriptorIndex := 179, attributes := #[] }] 48 6 #[] #[{ accessFlags := 24, nameIndex := 95, descriptorIndex := 96, attributes := #[] }, { accessFlags := 24, nameIndex := 105, descriptorIndex := 106, attributes := #[] }, { accessFlags := 24, nameIndex := 109, descriptorIndex := 106, attributes := #[] }, { accessFlags := 24, nameIndex := 111, descriptorIndex := 106, attributes := #[] }, { accessFlags := 24, nameIndex := 113, descriptorIndex := 106, attributes := #[] }, { accessFlags := 24, nameIndex := 115, descriptorIndex := 106, attributes := #[] }, { accessFlags := 24, nameIndex := 117, descriptorIndex := 106, attributes := #[] }, { accessFlags := 24, nameIndex := 118, descriptorIndex := 106, attributes := #[] }, { accessFlags := 24, nameIndex := 119, descriptorIndex := 106, attributes := #[] }, { accessFlags := 24, nameIndex := 121, descriptorIndex := 106, attributes := #[] }, { accessFlags := 24, nameIndex := 122, descriptorIndex := 106, attributes := #[] }, { accessFlags := 24, nameIndex := 124, descriptorIndex := 106, attributes := #[] }, { accessFlags := 24, nameIndex := 125, descriptorIndex := 106, attributes := #[] }, { accessFlags := 24, nameIndex := 127, descriptorIndex := 106, attributes := #[] }, { accessFlags := 24, nameIndex := 129, descriptorIndex := 106, attributes := #[] }, { accessFlags := 24, nameIndex := 131, descriptorIndex := 106, attributes := #[] }, { accessFlags := 24, nameIndex := 133, descriptorIndex := 106, attributes := #[] }, { accessFlags := 24, nameIndex := 135, descriptorIndex := 106, attributes := #[] }, { accessFlags := 24, nameIndex := 137, descriptorIndex := 106, attributes := #[] }, { accessFlags := 24, nameIndex := 139, descriptorIndex := 106, attributes := #[] }, { accessFlags := 24, nameIndex := 141, descriptorIndex := 106, attributes := #[] }, { accessFlags := 24, nameIndex := 142, descriptorIndex := 106, attributes := #[] }, { accessFlags := 24, nameIndex := 143, descriptorIndex := 106, attributes := #[] }, { accessFlags := 24, nameIndex := 145, descriptorIndex := 146, attributes := #[] }, { accessFlags := 24, nameIndex := 149, descriptorIndex := 106, attributes := #[] }, { accessFlags := 24, nameIndex := 151, descriptorIndex := 146, attributes := #[] }, { accessFlags := 24, nameIndex := 154, descriptorIndex := 146, attributes := #[] }, { accessFlags := 24, nameIndex := 157, descriptorIndex := 106, attributes := #[] }, { accessFlags := 24, nameIndex := 158, descriptorIndex := 106, attributes := #[] }, { accessFlags := 24, nameIndex := 160, descriptorIndex := 106, attributes := #[] }, { accessFlags := 24, nameIndex := 162, descriptorIndex := 106, attributes := #[] }, { accessFlags := 24, nameIndex := 163, descriptorIndex := 106, attributes := #[] }, { accessFlags := 24, nameIndex := 165, descriptorIndex := 106, attributes := #[] }, { accessFlags := 24, nameIndex := 167, descriptorIndex := 168, attributes := #[] }, { accessFlags := 24, nameIndex := 171, descriptorIndex := 106, attributes := #[] }, { accessFlags := 24, nameIndex := 172, descriptorIndex := 106, attributes := #[] }, { accessFlags := 26, nameIndex := 50, descriptorIndex := 51, attributes := #[] }])
  fields := #[{ name := "START", type := (.array .byte), accessFlags := 24, slot := 0, constantValue := 0 }, { name := "END", type := .int, accessFlags := 24, slot := 1, constantValue := 0 }, { name := "TYPES_FRAME", type := .int, accessFlags := 24, slot := 2, constantValue := 0 }, { name := "VALUES_FRAME", type := .int, accessFlags := 24, slot := 3, constantValue := 0 }, { name := "FIRST_ANCILLARY_FRAME", type := .int, accessFlags := 24, slot := 4, constantValue := 0 }, { name := "LAST_ANCILLARY_FRAME", type := .int, accessFlags := 24, slot := 5, constantValue := 0 }, { name := "RECORD_DEFINITION", type := .int, accessFlags := 24, slot := 6, constantValue := 0 }, { name := "ARRAY_DEFINITION", type := .int, accessFlags := 24, slot := 7, constantValue := 0 }, { name := "UNION_DEFINITION", type := .int, accessFlags := 24, slot := 8, constantValue := 0 }, { name := "FIRST_DEFINED_ID", type := .int, accessFlags := 24, slot := 9, constantValue := 0 }, { name := "NULL_TYPE", type := .int, accessFlags := 24, slot := 10, constantValue := 0 }, { name := "BOOL_TYPE", type := .int, accessFlags := 24, slot := 11, constantValue := 0 }, { name := "INT64_TYPE", type := .int, accessFlags := 24, slot := 12, constantValue := 0 }, { name := "BIGINT_TYPE", type := .int, accessFlags := 24, slot := 13, constantValue := 0 }, { name := "FLOAT64_TYPE", type := .int, accessFlags := 24, slot := 14, constantValue := 0 }, { name := "DECIMAL_TYPE", type := .int, accessFlags := 24, slot := 15, constantValue := 0 }, { name := "STRING_TYPE", type := .int, accessFlags := 24, slot := 16, constantValue := 0 }, { name := "BYTES_TYPE", type := .int, accessFlags := 24, slot := 17, constantValue := 0 }, { name := "MAX_DEPTH", type := .int, accessFlags := 24, slot := 18, constantValue := 0 }, { name := "MAX_BODILESS_VALUES", type := .int, accessFlags := 24, slot := 19, constantValue := 0 }, { name := "MAX_TYPES", type := .int, accessFlags := 24, slot := 20, constantValue := 0 }, { name := "MAX_NAMES", type := .int, accessFlags := 24, slot := 21, constantValue := 0 }, { name := "MAX_NAME_BYTES", type := .int, accessFlags := 24, slot := 22, constantValue := 0 }, { name := "NAME_TABLE_FULL", type := (.object "java/lang/String"), accessFlags := 24, slot := 23, constantValue := 0 }, { name := "MAX_DEFINITION_BYTES", type := .int, accessFlags := 24, slot := 24, constantValue := 0 }, { name := "DEFINITIONS_FULL", type := (.object "java/lang/String"), accessFlags := 24, slot := 25, constantValue := 0 }, { name := "VALUE_TOO_LONG", type := (.object "java/lang/String"), accessFlags := 24, slot := 26, constantValue := 0 }, { name := "VALUES_FRAME_TARGET", type := .int, accessFlags := 24, slot := 27, constantValue := 0 }, { name := "MAX_REMEMBERED_STRING_BYTES", type := .int, accessFlags := 24, slot := 28, constantValue := 0 }, { name := "MAX_REMEMBERED_STRINGS", type := .int, accessFlags := 24, slot := 29, constantValue := 0 }, { name := "MAX_VARINT_BYTES", type := .int, accessFlags := 24, slot := 30, constantValue := 0 }, { name := "MAX_LONG_DIGITS", type := .int, accessFlags := 24, slot := 31, constantValue := 0 }, { name := "MAX_BIG_INTEGER_BYTES", type := .int, accessFlags := 24, slot := 32, constantValue := 0 }, { name := "CANONICAL_NAN", type := .long, accessFlags := 24, slot := 33, constantValue := 0 }, { name := "FLOAT64_MAX_BYTES", type := .int, accessFlags := 24, slot := 34, constantValue := 0 }, { name := "FLOAT64_TENTH_BYTE", type := .int, accessFlags := 24, slot := 35, constantValue := 0 }, { name := "PRIMITIVE_KINDS", type := (.array (.object "com/example/tersewire/tersewire/ValueKind")), accessFlags := 26, slot := 36, constantValue := 0 }]
  methods := #[k2m0, k2m1]
  instanceTypes := #[]
  staticTypes := #[(.array .byte), .int, .int, .int, .int, .int, .int, .int, .int, .int, .int, .int, .int, .int, .int, .int, .int, .int, .int, .int, .int, .int, .int, (.object "java/lang/String"), .int, (.object "java/lang/String"), (.object "java/lang/String"), .int, .int, .int, .int, .int, .int, .long, .int, .int, (.array (.object "com/example/tersewire/tersewire/ValueKind"))]
  resolved := Array.replicate 210 none
  statics := some 0 }

def pool3 : Array CpInfo := pool [(1, .class_ 2), (0, u "java/lang/constant/Constable"), (0, .class_ 4), (0, u "java/lang/Object")] 6

/-- java/lang/constant/Constable -/
def k3 : Class := { plain "java/lang/constant/Constable" (some 0) with
  accessFlags := 1537
  interfaces := #[]
  cf := some (fileOf pool3 1 #[] #[] 1537 3 #[] #[])
  fields := #[]
  methods := #[]
  instanceTypes := #[]
  staticTypes := #[]
  resolved := Array.replicate 11 none
  statics := none }

def pool4 : Array CpInfo := pool [(1, .class_ 2), (0, u "java/lang/Comparable"), (0, .class_ 4), (0, u "java/lang/Object")] 7

/-- java/lang/Comparable -/
def k4 : Class := { plain "java/lang/Comparable" (some 0) with
  accessFlags := 1537
  interfaces := #[]
  cf := some (fileOf pool4 1 #[] #[] 1537 3 #[] #[])
  fields := #[]
  methods := #[]
  instanceTypes := #[]
  staticTypes := #[]
  resolved := Array.replicate 12 none
  statics := none }

def pool5 : Array CpInfo := pool [(1, .class_ 2), (0, u "java/io/Serializable"), (0, .class_ 4), (0, u "java/lang/Object")] 2

/-- java/io/Serializable -/
def k5 : Class := { plain "java/io/Serializable" (some 0) with
  accessFlags := 1537
  interfaces := #[]
  cf := some (fileOf pool5 1 #[] #[] 1537 3 #[] #[])
  fields := #[]
  methods := #[]
  instanceTypes := #[]
  staticTypes := #[]
  resolved := Array.replicate 7 none
  statics := none }

def pool6 : Array CpInfo := pool [(2, .class_ 4), (1, u "java/lang/Enum"), (0, u "name"), (0, u "Ljava/lang/String;"), (2, u "ordinal"), (0, u "I"), (1, .class_ 14), (1, u "java/lang/Object"), (4, u "hash"), (86, .class_ 108), (1, u "java/lang/Enum$EnumDesc"), (2, .class_ 112), (0, u "java/lang/constant/Constable"), (0, .class_ 114), (0, u "java/lang/Comparable"), (0, .class_ 116), (0, u "java/io/Serializable")] 87

/-- java/lang/Enum -/
def k6 : Class := { plain "java/lang/Enum" (some 0) with
  accessFlags := 1057
  interfaces := #[3, 4, 5]
  cf := some (fileOf pool6 2 #[.nestMembers #[106]] #[] 1057 12 #[111, 113, 115] #[{ accessFlags := 18, nameIndex := 5, descriptorIndex := 6, attributes := #[] }, { accessFlags := 18, nameIndex := 9, descriptorIndex := 10, attributes := #[] }, { accessFlags := 2, nameIndex := 19, descriptorIndex := 10, attributes := #[] }])
  fields := #[{ name := "name", type := (.object "java/lang/String"), accessFlags := 18, slot := 0, constantValue := 0 }, { name := "ordinal", type := .int, accessFlags := 18, slot := 1, constantValue := 0 }, { name := "hash", type := .int, accessFlags := 2, slot := 2, constantValue := 0 }]
  methods := #[]
  instanceTypes := #[(.object "java/lang/String"), .int, .int]
  staticTypes := #[]
  resolved := Array.replicate 204 none
  statics := none }

def pool7 : Array CpInfo := pool [(1, .class_ 2), (0, u "com/example/tersewire/tersewire/ValueKind"), (2, u "NULL"), (0, u "Lcom/example/tersewire/tersewire/ValueKind;"), (2, u "BOOL"), (2, u "INT64"), (2, u "BIGINT"), (2, u "FLOAT64"), (2, u "DECIMAL"), (2, u "STRING"), (2, u "BYTES"), (2, u "RECORD"), (2, u "ARRAY"), (2, u "$VALUES"), (0, u "[Lcom/example/tersewire/tersewire/ValueKind;"), (6, .class_ 46), (1, u "java/lang/Enum")] 32

/-- com/example/tersewire/tersewire/ValueKind -/
def k7 : Class := { plain "com/example/tersewire/tersewire/ValueKind" (some 6) with
  accessFlags := 16433
  interfaces := #[]
  cf := some (fileOf pool7 1 #[] #[] 16433 44 #[] #[{ accessFlags := 16409, nameIndex := 5, descriptorIndex := 6, attributes := #[] }, { accessFlags := 16409, nameIndex := 9, descriptorIndex := 6, attributes := #[] }, { accessFlags := 16409, nameIndex := 12, descriptorIndex := 6, attributes := #[] }, { accessFlags := 16409, nameIndex := 15, descriptorIndex := 6, attributes := #[] }, { accessFlags := 16409, nameIndex := 18, descriptorIndex := 6, attributes := #[] }, { accessFlags := 16409, nameIndex := 21, descriptorIndex := 6, attributes := #[] }, { accessFlags := 16409, nameIndex := 24, descriptorIndex := 6, attributes := #[] }, { accessFlags := 16409, nameIndex := 27, descriptorIndex := 6, attributes := #[] }, { accessFlags := 16409, nameIndex := 30, descriptorIndex := 6, attributes := #[] }, { accessFlags := 16409, nameIndex := 33, descriptorIndex := 6, attributes := #[] }, { accessFlags := 4122, nameIndex := 36, descriptorIndex := 37, attributes := #[] }])
  fields := #[{ name := "NULL", type := (.object "com/example/tersewire/tersewire/ValueKind"), accessFlags := 16409, slot := 0, constantValue := 0 }, { name := "BOOL", type := (.object "com/example/tersewire/tersewire/ValueKind"), accessFlags := 16409, slot := 1, constantValue := 0 }, { name := "INT64", type := (.object "com/example/tersewire/tersewire/ValueKind"), accessFlags := 16409, slot := 2, constantValue := 0 }, { name := "BIGINT", type := (.object "com/example/tersewire/tersewire/ValueKind"), accessFlags := 16409, slot := 3, constantValue := 0 }, { name := "FLOAT64", type := (.object "com/example/tersewire/tersewire/ValueKind"), accessFlags := 16409, slot := 4, constantValue := 0 }, { name := "DECIMAL", type := (.object "com/example/tersewire/tersewire/ValueKind"), accessFlags := 16409, slot := 5, constantValue := 0 }, { name := "STRING", type := (.object "com/example/tersewire/tersewire/ValueKind"), accessFlags := 16409, slot := 6, constantValue := 0 }, { name := "BYTES", type := (.object "com/example/tersewire/tersewire/ValueKind"), accessFlags := 16409, slot := 7, constantValue := 0 }, { name := "RECORD", type := (.object "com/example/tersewire/tersewire/ValueKind"), accessFlags := 16409, slot := 8, constantValue := 0 }, { name := "ARRAY", type := (.object "com/example/tersewire/tersewire/ValueKind"), accessFlags := 16409, slot := 9, constantValue := 0 }, { name := "$VALUES", type := (.array (.object "com/example/tersewire/tersewire/ValueKind")), accessFlags := 4122, slot := 10, constantValue := 0 }]
  methods := #[]
  instanceTypes := #[(.object "java/lang/String"), .int, .int]
  staticTypes := #[(.object "com/example/tersewire/tersewire/ValueKind"), (.object "com/example/tersewire/tersewire/ValueKind"), (.object "com/example/tersewire/tersewire/ValueKind"), (.object "com/example/tersewire/tersewire/ValueKind"), (.object "com/example/tersewire/tersewire/ValueKind"), (.object "com/example/tersewire/tersewire/ValueKind"), (.object "com/example/tersewire/tersewire/ValueKind"), (.object "com/example/tersewire/tersewire/ValueKind"), (.object "com/example/tersewire/tersewire/ValueKind"), (.object "com/example/tersewire/tersewire/ValueKind"), (.array (.object "com/example/tersewire/tersewire/ValueKind"))]
  resolved := Array.replicate 79 none
  statics := some 1 }

def pool8 : Array CpInfo := pool [(1, u "java/lang/Cloneable"), (0, .class_ 1), (0, u "java/lang/Object"), (0, .class_ 3)] 3

/-- java/lang/Cloneable -/
def k8 : Class := { plain "java/lang/Cloneable" (some 0) with
  accessFlags := 1537
  interfaces := #[]
  cf := some (fileOf pool8 2 #[] #[] 1537 4 #[] #[])
  fields := #[]
  methods := #[]
  instanceTypes := #[]
  staticTypes := #[]
  resolved := Array.replicate 8 none
  statics := none }

/-- the primitive byte -/
def k9 : Class := { plain "byte" none with kind := .primitive 'B', accessFlags := 0x411 }
/-- [B -/
def k10 : Class := { plain "[B" (some 0) with kind := .array 9 .byte, interfaces := #[8, 5], accessFlags := 1041 }

/-- the primitive int -/
def k11 : Class := { plain "int" none with kind := .primitive 'I', accessFlags := 0x411 }
/-- [I -/
def k12 : Class := { plain "[I" (some 0) with kind := .array 11 .int, interfaces := #[8, 5], accessFlags := 1041 }

/-- [Lcom/example/tersewire/tersewire/ValueKind; -/
def k13 : Class := { plain "[Lcom/example/tersewire/tersewire/ValueKind;" (some 0) with kind := .array 7 (.object "com/example/tersewire/tersewire/ValueKind"), interfaces := #[8, 5], accessFlags := 1041 }

def heap : Heap := #[{ cls := 2, slots := #[.null, .int 0, .int 0, .int 0, .int 0, .int 0, .int 0, .int 0, .int 0, .int 0, .int 0, .int 0, .int 0, .int 0, .int 0, .int 0, .int 0, .int 0, .int 0, .int 0, .int 0, .int 0, .int 0, .null, .int 0, .null, .null, .int 0, .int 0, .int 0, .int 0, .int 0, .int 0, .long 0, .int 0, .int 0, .ref 2], vm := .statics 2 },
  { cls := 7, slots := #[.ref 3, .ref 4, .ref 5, .ref 6, .ref 7, .ref 8, .ref 9, .ref 10, .null, .null, .null], vm := .statics 7 },
  { cls := 13, slots := #[.ref 3, .ref 4, .null, .null, .null, .ref 5, .null, .null, .null, .null, .ref 6, .null, .ref 7, .ref 8, .ref 9, .ref 10, .null, .null, .null, .null, .null, .null, .null, .null, .null, .null, .null, .null, .null, .null, .null, .null], vm := .none },
  { cls := 7, slots := #[.null, .int 1, .int 0], vm := .none },
  { cls := 7, slots := #[.null, .int 2, .int 0], vm := .none },
  { cls := 7, slots := #[.null, .int 3, .int 0], vm := .none },
  { cls := 7, slots := #[.null, .int 4, .int 0], vm := .none },
  { cls := 7, slots := #[.null, .int 5, .int 0], vm := .none },
  { cls := 7, slots := #[.null, .int 6, .int 0], vm := .none },
  { cls := 7, slots := #[.null, .int 7, .int 0], vm := .none },
  { cls := 7, slots := #[.null, .int 8, .int 0], vm := .none }]
def classes : Array Class := #[k0, k1, k2, k3, k4, k5, k6, k7, k8, k9, k10, k11, k12, k13]
def interned : List (Array UInt16 × Addr) := []
def slotsUsed : Nat := 104
def theMethod : MethodId := ⟨1, 2⟩
def args0 : Array Value := #[.long 5, .int 5, .int 5]
def aboutOver (below : List Frame) : State where
  vm := { classes := classes, interned := interned.toArray }
  heap := heap
  slotsUsed := slotsUsed
  threads := #[{ frames := .invoking theMethod args0 :: below }]
def below0 : List Frame := [.native { method := ⟨0, 0⟩, args := #[] }]
def about1 : State := aboutOver below0
def p0 : Program := .bare "" "" ""
def e0 : Env := launch0.env 0 0 0
theorem w_frames : about1.frames = Frame.invoking theMethod args0 :: below0 := rfl
set_option maxRecDepth 65536 in
theorem w_args : argsFit about1.vm theMethod args0 = true := by decide +kernel
set_option maxRecDepth 65536 in
theorem w_heap : heapFits about1 = true := by decide +kernel
set_option maxRecDepth 65536 in
theorem w_runnable : about1.curStatus? = some .runnable := by decide +kernel
set_option maxRecDepth 65536 in
theorem w_alone : about1.alone = true := by decide +kernel
set_option maxRecDepth 65536 in
theorem w_named : about1.methodNamed? x = some theMethod := by decide +kernel
set_option maxRecDepth 65536 in
theorem w_hears : about1.hears theMethod below0 = true := by decide +kernel
set_option maxRecDepth 65536 in
theorem w_ripe : about1.ripe theMethod args0 below0 = true := by decide +kernel
theorem w_running : about1.status = .running := rfl
set_option maxRecDepth 65536 in
theorem w_room : about1.hasRoom e0.platform room_1 = true :=
  launch0.hasRoom_least _ room_1 (by decide +kernel) (by decide +kernel) (by decide +kernel) (by decide +kernel) (by decide +kernel) (by decide +kernel)
theorem allAtoms_all (ts : List Jvm.Cond) (a : Array Jvm.Value) (st : Jvm.State) : (allAtoms ts).before a st = ts.all (fun c => c.before a st) := by
  induction ts with
  | nil => rfl
  | cons c t ih =>
    show (Jvm.Cond.and c (allAtoms t)).before a st = _
    rw [Jvm.Cond.before_and, ih, List.all_cons]
def words1 : List Jvm.Cond := Jvm.Cond.code x code maxLocals ret :: tables_1
/-- a 'code' word, met by the world's own term for the bytes: nothing is compared byte by byte -/
theorem code_word {y : MethodName} {bytes : ByteArray} {mx : Nat} {rt : Option FieldType} {a : Array Value} {s : State} {m : MethodId} {meth : Method} {c : Code} (h1 : s.methodNamed? y = some m) (h2 : s.vm.method? m = some meth) (h3 : meth.code = some c) (h4 : c.code = bytes)
    (h5 : (c.maxLocals == mx && c.exceptionTable.isEmpty && decide (c.maxStack ≤ mostOperands) && decide (meth.sig.returnType = rt) && !meth.locks && decide (parseMethodDescriptor y.desc = some meth.sig)) = true) : (Jvm.Cond.code y bytes mx rt).before a s = true := by
  simp only [Bool.and_eq_true, beq_iff_eq, Bool.not_eq_true', decide_eq_true_eq] at h5
  obtain ⟨⟨⟨⟨⟨g1, g2⟩, g3⟩, g4⟩, g5⟩, g6⟩ := h5
  simp [Cond.before, Cond.holds, Cond.value, h1, h2, h3, h4, g1, g2, g3, g4, g5, g6]
def isCode : Jvm.Cond → Bool
  | .code _ _ _ _ => true
  | _ => false
theorem all_split {L : List Jvm.Cond} {P : Jvm.Cond → Bool} (h1 : L.all (fun c => isCode c || P c) = true) (h2 : ∀ c ∈ L.filter isCode, P c = true) : L.all P = true := by
  refine List.all_eq_true.mpr fun c hc => ?_
  have h := List.all_eq_true.mp h1 c hc
  rcases Bool.eq_false_or_eq_true (isCode c) with hi | hi
  · exact h2 c (List.mem_filter.mpr ⟨hc, hi⟩)
  · simpa [hi] using h
set_option maxRecDepth 65536 in
theorem w_c0 : (Jvm.Cond.code x code maxLocals ret).before args0 about1 = true := code_word (m := ⟨1, 2⟩) (meth := k1m2) (c := k1c2) (by decide +kernel) rfl rfl rfl (by decide +kernel)
set_option maxRecDepth 65536 in
theorem w_c1 : (Jvm.Cond.code ({ cls := "com/example/tersewire/tersewire/Wire", name := "primitiveKind", desc := "(J)Lcom/example/tersewire/tersewire/ValueKind;" } : Jvm.MethodName) prog_32_method_4_code (2 : Nat) (Option.some (Jvm.ClassFile.FieldType.object "com/example/tersewire/tersewire/ValueKind"))).before args0 about1 = true := code_word (m := ⟨2, 1⟩) (meth := k2m1) (c := k2c1) (by decide +kernel) rfl rfl rfl (by decide +kernel)
set_option maxRecDepth 65536 in
theorem w_c2 : (Jvm.Cond.code ({ cls := "com/example/tersewire/tersewire/WirePrimitiveKindPinLaw", name := "expected", desc := "(J)Lcom/example/tersewire/tersewire/ValueKind;" } : Jvm.MethodName) method_2_code (2 : Nat) (Option.some (Jvm.ClassFile.FieldType.object "com/example/tersewire/tersewire/ValueKind"))).before args0 about1 = true := code_word (m := ⟨1, 1⟩) (meth := k1m1) (c := k1c1) (by decide +kernel) rfl rfl rfl (by decide +kernel)
def codes1 : List Jvm.Cond := [Jvm.Cond.code x code maxLocals ret, Jvm.Cond.code ({ cls := "com/example/tersewire/tersewire/Wire", name := "primitiveKind", desc := "(J)Lcom/example/tersewire/tersewire/ValueKind;" } : Jvm.MethodName) prog_32_method_4_code (2 : Nat) (Option.some (Jvm.ClassFile.FieldType.object "com/example/tersewire/tersewire/ValueKind")), Jvm.Cond.code ({ cls := "com/example/tersewire/tersewire/WirePrimitiveKindPinLaw", name := "expected", desc := "(J)Lcom/example/tersewire/tersewire/ValueKind;" } : Jvm.MethodName) method_2_code (2 : Nat) (Option.some (Jvm.ClassFile.FieldType.object "com/example/tersewire/tersewire/ValueKind"))]
set_option maxRecDepth 65536 in
theorem codes_eq : words1.filter isCode = codes1 := rfl
theorem w_codes : ∀ c ∈ words1.filter isCode, c.before args0 about1 = true := by
  rw [codes_eq]
  intro c hc
  simp only [codes1, List.mem_cons, List.not_mem_nil, or_false] at hc
  rcases hc with rfl | rfl | rfl
  · exact w_c0
  · exact w_c1
  · exact w_c2
set_option maxRecDepth 65536 in
theorem w_t1 : (words1.take 24).all (fun c => isCode c || c.before args0 about1) = true := by decide +kernel
set_option maxRecDepth 65536 in
theorem w_t2 : (words1.drop 24).all (fun c => isCode c || c.before args0 about1) = true := by decide +kernel
theorem w_tables : (allAtoms (Jvm.Cond.code x code maxLocals ret :: tables_1)).before args0 about1 = true := by
  rw [allAtoms_all]
  show words1.all (fun c => c.before args0 about1) = true
  refine all_split ?_ w_codes
  rw [← List.take_append_drop 24 words1, List.all_append, w_t1, w_t2]
  rfl
set_option maxRecDepth 65536 in
theorem w_case : (Jvm.Cond.and given_1 narrow_1).before args0 about1 = true := by decide +kernel
theorem w_applies : (headSpec (Jvm.Cond.code x code maxLocals ret :: tables_1) room_1).applies x e0.platform about1 = true :=
  (Spec.applies_iff w_frames).mpr ⟨w_running, w_runnable, w_alone, w_named, w_hears, w_ripe, w_room, w_tables⟩
theorem atStart : AtStart classFile x code maxLocals ret World_1 tables_1 room_1 Calls_1 rest_1 Pre_1 launch0 p0 e0 about1 theMethod args0 below0 :=
  ⟨lists_1, trivial, launch0.admits_env _ _ _, launch0.least_env, fairChoices_fair.cas, fairChoices_fair.clock, w_frames, w_args, w_heap, w_applies, trivial, trivial, w_case⟩
end start1
theorem witness_1 : WitnessClaimed_1 := ⟨start1.p0, start1.e0, start1.about1, start1.theMethod, start1.args0, start1.below0, start1.atStart⟩
end Jvm.Pilot.@@N@@
