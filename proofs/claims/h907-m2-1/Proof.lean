import JvmDerived
import JvmDerived.Pilot.@@N@@Statement
import JvmDerived.Pilot.@@N@@Code
set_option linter.unusedVariables false
set_option linter.unusedSimpArgs false
namespace Jvm.Pilot.@@N@@
open Jvm Jvm.ClassFile Sem Op Lib Jvm.Free Jvm.Stand Jvm.LawKit Jvm.RoadKit Bundle Jvm.Pilot.@@N@@.Jvm.D
section Own
variable {p : Program} {l : Launch} {e : Env} {R : Room} {s : State} {m : MethodId} {args : Array Value} {below : List Frame} {meth : Method} {c : Code} {T : State} {locs : List Loc} {cells slots : Nat} {Z : State} {a0 : Array Value} {h : Heap} {Φ : Outcome → State → Prop}
/-- what is left of a walk: from S the invocation ends as Φ says -/
def OGo (tb : Tables) (e : Env) (below : List Frame) (Φ : Outcome → State → Prop) (S : State) : Prop := ∃ s₂ o, Steps tb e below S s₂ ∧ s₂.status = .running ∧ Ended s₂ below o ∧ Φ o s₂
theorem OGo.st {tb : Tables} {S S' : State} (h : ∀ t, Steps tb e below S' t → Steps tb e below S t) (g : OGo tb e below Φ S') : OGo tb e below Φ S := by
  obtain ⟨s₂, o, h1, r⟩ := g
  exact ⟨s₂, o, h _ h1, r⟩
theorem OGo.fin (X : Stand p l e R s m args below meth c T locs cells slots) (hlk : meth.locks = false) {v : Option Value} (hv : meth.sig.returnType = none → v = none) {g : JFrame} {k n : Nat} (hk : cells ≤ k) (hn : slots ≤ n)
    (st : ∀ fs, (∀ (f : JFrame) (acts : List Action), f.method = m → f.locked = none → f.entered = [] → (doReturn e (T.setTop f) acts v).1 = T.setFrames fs) → Steps p.tables e below (T.setTop g) (T.setFrames fs))
    (hq : ∀ U, U.heap = T.heap → FrameEnd s (.returned v) U locs k n → Φ (.returned v) U) : OGo p.tables e below Φ (T.setTop g) := by
  obtain ⟨fs, hr, hrun, hended, hW, hsame⟩ := X.leave (v := v) hv hlk
  exact ⟨_, _, st fs hr, hrun, hended, hq _ rfl ⟨⟨_, rfl⟩, hW, hsame.mono hk hn⟩⟩
/-- a contract: what every body's theorem says -/
abbrev OCon (l : Launch) (Z : State) (y : MethodName) (bytes : ByteArray) (maxL : Nat) (ret : Option FieldType) (ws : List Jvm.Cond) (rm : Room) (as' : Array Value) (h0 : Heap) (Q : Option Value → Heap → List Loc → Prop) : Prop :=
  MetFree l y (head1 (Jvm.Cond.code y bytes maxL ret :: ws) rm) (fun a U => a = as' ∧ Z.Warmed39 U.vm ∧ U.heap = h0) (fun _ _ _ _ _ => True) (fun _ U o U' => ∃ v L, o = .returned v ∧ Q v U'.heap L ∧ FrameEnd U o U' L rm.cells rm.slots)
theorem OCon.of {y : MethodName} {bytes : ByteArray} {maxL : Nat} {ret : Option FieldType} {ws : List Jvm.Cond} {rm : Room} {as' : Array Value} {h0 : Heap} {Q : Option Value → Heap → List Loc → Prop} (hpl : plainFor y = true)
    (H : ∀ (p : Program) (e : Env) (s : State) (m : MethodId) (below : List Frame) (meth : Method) (c : Code) (s₁ : State) (Φ : Outcome → State → Prop), Stand p l e rm s m as' below meth c s₁ [] 0 0 → p.tables.exec = Jvm.exec → c.code = bytes → c.maxLocals = maxL → s.vm.findClass y.cls = some m.cls → meth.name = y.name → meth.sig.returnType = ret → meth.locks = false → Z.Warmed39 s.vm → s₁.heap = h0 →
      (∀ v L U, Q v U.heap L → FrameEnd s (.returned v) U L rm.cells rm.slots → Φ (.returned v) U) → OGo p.tables e below Φ (s₁.setTop (entryFrame m as' maxL))) :
    OCon l Z y bytes maxL ret ws rm as' h0 Q := by
  refine MetFree.of_bodySF hpl hisR ?_
  intro p e s m args below meth c s₁ Bd hml0 hP hK
  obtain ⟨rfl, hZ, hh⟩ := hP
  have e0 : s₁.heap = h0 := by rw [← hh, Bd.state]; rfl
  exact H p e s m below meth c s₁ _ (Stand.of_body Bd) Bd.exec Bd.bytes hml0 (findClass_of_methodNamed Bd.named) (name_of_methodNamed Bd.named Bd.method).1 Bd.returns Bd.notSynchronized hZ e0 (fun v L U hq hf => ⟨v, L, rfl, hq, hf⟩)
theorem own_callSt (X : Stand p l e R s m args below meth c T locs cells slots) (hx : p.tables.exec = Jvm.exec) (hZ : Z.Warmed39 s.vm) {own : String} {index : Nat} {y : MethodName} {bytes : ByteArray} {maxL : Nat} {ret : Option FieldType} {rm : Room} {as' : Array Value} {Q : Option Value → Heap → List Loc → Prop}
    (hown : s.vm.findClass own = some m.cls) (w1 : (Jvm.Cond.methodLink own index y).before a0 Z = true) (w2 : (Jvm.Cond.static y).before a0 Z = true) (w3 : (Jvm.Cond.initialized y.cls).before a0 Z = true) (w4 : (Jvm.Cond.code y bytes maxL ret).before a0 Z = true) (hy : y.cls ≠ "java/lang/invoke/MethodHandle" ∧ y.cls ≠ "java/lang/invoke/VarHandle")
    (hM : OCon l Z y bytes maxL ret [] rm as' h Q) (eT : T.heap = h) {W : Nat} (hf : rm.frames + 1 ≤ R.frames) (hl : W + (maxL + 11) + rm.locals ≤ R.locals) (hcl : cells + rm.cells ≤ R.cells) (hsl : slots + rm.slots ≤ R.slots)
    {pc : Nat} {ls : Array Slot} {stk : List Value} (hsize : ls.size = c.maxLocals) {argsL rest : List Value} (hlen : ∀ sig, parseMethodDescriptor y.desc = some sig → argsL.length = sig.parameters.length) (has : argsL.toArray = as') (hstack : stk = argsL.reverse ++ rest) (hW : (rest.map fun v => v.category).sum ≤ W)
    (hd : decode c.code pc = .ok (.invokestatic index, 3)) :
    ∃ v T' L, Stand p l e R s m args below meth c T' (locs ++ L) (cells + rm.cells) (slots + rm.slots) ∧ Q v T'.heap L ∧ ∀ target, Steps p.tables e below (T'.setTop (mkF m (pc + 3) ls (v.toList ++ rest))) target → Steps p.tables e below (T.setTop (mkF m pc ls stk)) target := by
  subst has
  obtain ⟨v, vm₁, ⟨T', L', k', n'⟩, -, X', ⟨L, hQ, l1, y1, z1⟩, st⟩ := Jvm.LawKit.callS X hx (y := y) hown (mvT hZ w1) (mvT hZ w2) (mvT hZ w3) (mvT hZ w4) hy (backOf (W := W) hM hZ w4 w3 hf hl) (g := mkF m pc ls stk) rfl hsize (argsL := argsL) (rest := rest) hlen hstack (by simpa using hW) hd (fun _ _ => ⟨rfl, eT, hcl, hsl⟩)
  dsimp only [Pt.U, Pt.locs, Pt.cells, Pt.slots] at X' l1 y1 z1 st hQ
  subst l1 y1 z1
  exact ⟨v, T', L, X', hQ, st⟩
theorem own_callSp (X : Stand p l e R s m args below meth c T locs cells slots) (hx : p.tables.exec = Jvm.exec) (hZ : Z.Warmed39 s.vm) {own : String} {index : Nat} {y : MethodName} {bytes : ByteArray} {maxL : Nat} {rm : Room} {as' : Array Value} {Q : Option Value → Heap → List Loc → Prop}
    (hy1 : y.name = "<init>") (hown : s.vm.findClass own = some m.cls) (w1 : (Jvm.Cond.methodLink own index y).before a0 Z = true) (w2 : (Jvm.Cond.instanceMethod y).before a0 Z = true) (w3 : (Jvm.Cond.initialized y.cls).before a0 Z = true) (w4 : (Jvm.Cond.code y bytes maxL none).before a0 Z = true) (hy : y.cls ≠ "java/lang/invoke/MethodHandle" ∧ y.cls ≠ "java/lang/invoke/VarHandle")
    (hM : OCon l Z y bytes maxL none [] rm as' h Q) (eT : T.heap = h) {W : Nat} (hf : rm.frames + 1 ≤ R.frames) (hl : W + (maxL + 11) + rm.locals ≤ R.locals) (hcl : cells + rm.cells ≤ R.cells) (hsl : slots + rm.slots ≤ R.slots)
    {pc : Nat} {ls : Array Slot} {stk : List Value} (hsize : ls.size = c.maxLocals) {a : Addr} {argsL rest : List Value} (hlen : ∀ sig, parseMethodDescriptor y.desc = some sig → argsL.length = sig.parameters.length) (has : (.ref a :: argsL).toArray = as') (hstack : stk = argsL.reverse ++ .ref a :: rest) (hW : (rest.map fun v => v.category).sum ≤ W)
    (hd : decode c.code pc = .ok (.invokespecial index, 3)) :
    ∃ v T' L, Stand p l e R s m args below meth c T' (locs ++ L) (cells + rm.cells) (slots + rm.slots) ∧ Q v T'.heap L ∧ ∀ target, Steps p.tables e below (T'.setTop (mkF m (pc + 3) ls (v.toList ++ rest))) target → Steps p.tables e below (T.setTop (mkF m pc ls stk)) target := by
  subst has
  obtain ⟨v, vm₁, ⟨T', L', k', n'⟩, -, X', ⟨L, hQ, l1, y1, z1⟩, st⟩ := X.specialBack hx (y := y) hy1 hown (mvT hZ w1) (mvT hZ w2) (mvT hZ w4) hy (backOf (W := W) hM hZ w4 w3 hf hl) (g := mkF m pc ls stk) rfl hsize (Steps.refl _) (a := a) (argsL := argsL) (rest := rest) hlen hstack (by simpa using hW) hd (fun _ _ => ⟨rfl, eT, hcl, hsl⟩)
  dsimp only [Pt.U, Pt.locs, Pt.cells, Pt.slots] at X' l1 y1 z1 st hQ
  subst l1 y1 z1
  exact ⟨v, T', L, X', hQ, fun t k => st.trans k⟩
theorem own_callVi (X : Stand p l e R s m args below meth c T locs cells slots) (hx : p.tables.exec = Jvm.exec) (hZ : Z.Warmed39 s.vm) {own C : String} {index : Nat} {y z : MethodName} {bytes : ByteArray} {maxL : Nat} {ret : Option FieldType} {rm : Room} {as' : Array Value} {Q : Option Value → Heap → List Loc → Prop}
    (hown : s.vm.findClass own = some m.cls) (w1 : (Jvm.Cond.methodLink own index y).before a0 Z = true) (w2 : (Jvm.Cond.declares y).before a0 Z = true) (nf : NotFace s y) (w3 : (Jvm.Cond.selects C y z).before a0 Z = true) (w4 : (Jvm.Cond.instanceMethod z).before a0 Z = true) (w5 : (Jvm.Cond.initialized z.cls).before a0 Z = true) (w6 : (Jvm.Cond.code z bytes maxL ret).before a0 Z = true) (hy : y.cls ≠ "java/lang/invoke/MethodHandle" ∧ y.cls ≠ "java/lang/invoke/VarHandle")
    (hM : OCon l Z z bytes maxL ret [] rm as' h Q) (eT : T.heap = h) {W : Nat} (hf : rm.frames + 1 ≤ R.frames) (hl : W + (maxL + 11) + rm.locals ≤ R.locals) (hcl : cells + rm.cells ≤ R.cells) (hsl : slots + rm.slots ≤ R.slots) {a : Addr} (E : Exa Z h a C)
    {pc : Nat} {ls : Array Slot} {stk : List Value} (hsize : ls.size = c.maxLocals) {argsL rest : List Value} (hlen : ∀ sig, parseMethodDescriptor y.desc = some sig → argsL.length = sig.parameters.length) (has : (.ref a :: argsL).toArray = as') (hstack : stk = argsL.reverse ++ .ref a :: rest) (hW : (rest.map fun v => v.category).sum ≤ W)
    (hd : decode c.code pc = .ok (.invokevirtual index, 3)) :
    ∃ v T' L, Stand p l e R s m args below meth c T' (locs ++ L) (cells + rm.cells) (slots + rm.slots) ∧ Q v T'.heap L ∧ ∀ target, Steps p.tables e below (T'.setTop (mkF m (pc + 3) ls (v.toList ++ rest))) target → Steps p.tables e below (T.setTop (mkF m pc ls stk)) target := by
  subst has
  obtain ⟨cq, kq, qa, qb, qc⟩ := isOf hZ eT E
  obtain ⟨v, vm₁, ⟨T', L', k', n'⟩, -, X', ⟨L, hQ, l1, y1, z1⟩, st⟩ := X.virtualBack hx (y := y) (z := z) hown (mvT hZ w1) (mvT hZ w2) nf (mvT hZ w3) (mvT hZ w4) hy (backOf (W := W) hM hZ w6 w5 hf hl) qa qc (g := mkF m pc ls stk) rfl hsize (Steps.refl _) (argsL := argsL) (rest := rest) hlen hstack (by simpa using hW) hd (fun _ _ => ⟨rfl, eT, hcl, hsl⟩)
  dsimp only [Pt.U, Pt.locs, Pt.cells, Pt.slots] at X' l1 y1 z1 st hQ
  subst l1 y1 z1
  exact ⟨v, T', L, X', hQ, fun t k => st.trans k⟩
theorem own_lremM {g : JFrame} {target : State} (X : Stand p l e R s m args below meth c T locs cells slots) (hx : p.tables.exec = Jvm.exec) (hg : g.method = m) {x y : Int64} {rest : List Value} (hd : decode c.code g.pc = .ok (.lrem, 1)) (hs : g.stack = .long y :: .long x :: rest) (hy : y ≠ 0)
    (hr : Steps p.tables e below (T.setTop { g with pc := g.pc + 1, stack := .long (x % y) :: rest }) target) : Steps p.tables e below (T.setTop g) target :=
  XT.lrem X.here hx hg hd hs hy (by rw [lrem_mod]; exact hr)
theorem own_nz {x : Int32} (q : x = 0 ∨ x = 1) : narrow .boolean (.int x) = .int x := by rcases q with rfl | rfl <;> rfl
theorem own_fz {x : Int32} (q : x = 0 ∨ x = 1) : fits .boolean (.int x) = true := by rcases q with rfl | rfl <;> rfl
theorem own_irr (x : Int32) : ¬ x < x := fun q => absurd (Int32.lt_iff_toInt_lt.mp q) (Int.lt_irrefl _)
theorem own_irrL (x : Int64) : ¬ x < x := fun q => absurd (Int64.lt_iff_toInt_lt.mp q) (Int.lt_irrefl _)
/-- a small int is one of the first n -/
theorem own_small {n : Nat} (hn : n < 2 ^ 31) (x : Int32) (h0 : ¬ x < 0) (h1 : x.toInt < n) : ∃ k : Fin n, x = Int32.ofInt k.val := by
  have h2 : 0 ≤ x.toInt := by
    rcases Int.lt_or_le x.toInt 0 with q | q
    · exact absurd (Int32.lt_iff_toInt_lt.mpr q) h0
    · exact q
  refine ⟨⟨x.toInt.toNat, by omega⟩, ?_⟩
  rw [Int.toNat_of_nonneg h2, Int32.ofInt_toInt]
end Own
section OwnSta
variable {args : Array Value} {Z : State} {a : Addr} {t : Jvm.Term}
theorem own_eqV {u : Jvm.Term} {v : Value} (hu : u.eval args Z none [] Z = some v) (hv : (match v with | .retAddr _ => false | _ => true) = true) (q : (Jvm.Cond.eq t u).value args Z none Z [] = some true) : t.eval args Z none [] Z = some v := by
  obtain ⟨x, y, ex, ey, k1, k2⟩ := cmp_v (Or.inl q)
  cases hu.symm.trans ey
  rw [ex]
  cases x <;> cases v <;> simp_all [Jvm.Cond.value, Kin, Value.isRef]
theorem own_fldI {C n d : String} {k : Int32} (ev : t.eval args Z none [] Z = some (.ref a)) (q : (Jvm.Cond.eq (Jvm.Term.field t C n d) (Jvm.Term.int k)).value args Z none Z [] = some true) : Fld Z Z.heap a C n d (.int k) :=
  Fld.start ((fld_at ev).symm.trans (own_eqV (Term.int_eval k) rfl q))
theorem own_lenI {k : Int32} {cl : Cell} {ty : FieldType} (ev : t.eval args Z none [] Z = some (.ref a)) (A : Arr Z Z.heap a cl ty) (q : (Jvm.Cond.eq (Jvm.Term.length t) (Jvm.Term.int k)).value args Z none Z [] = some true) : cl.slots.size < 2 ^ 31 ∧ cl.slots.size.toInt32 = k := by
  have h := own_eqV (Term.int_eval k) rfl q
  obtain ⟨b, cell, ht, harr, hl⟩ := Term.length_spec h
  cases ev.symm.trans ht
  have ha : Z.arrayAt? a = some cl := Arr.fin (Vm.Alike.refl _) A
  cases ha.symm.trans harr
  by_cases hs : cl.slots.size < 2 ^ 31
  · exact ⟨hs, (Value.int.inj (Option.some.inj ((len_f ev ha hs).symm.trans h)))⟩
  · exfalso
    rw [Jvm.Term.eval, ev] at h
    simp [ha] at h
    omega
theorem own_elem {j : Int32} {n : Nat} {u : Jvm.Term} {v : Value} {cl : Cell} {ty : FieldType} (ev : t.eval args Z none [] Z = some (.ref a)) (A : Arr Z Z.heap a cl ty) (hu : u.eval args Z none [] Z = some v) (hv : (match v with | .retAddr _ => false | _ => true) = true) (hj : j.toNatClampNeg = n) (q : (Jvm.Cond.eq (Jvm.Term.elem t (Jvm.Term.int j)) u).value args Z none Z [] = some true) : cl.slots[n]? = some v :=
  hj ▸ (elem_in (own_eqV hu hv q) ev (Term.int_eval j) A.1).2
end OwnSta
theorem ow0 {Z : State} {a0 : Array Value} (hw : ∀ d ∈ tables_1, d.before a0 Z = true) : (Jvm.Cond.fieldLink "com/example/orderly_migration/orderlymigration/core/StateCountsAsAppliedPinLaw" (7 : Nat) "com/example/orderly_migration/orderlymigration/core/RecordEntry$State" "APPLIED" "Lcom/example/orderly_migration/orderlymigration/core/RecordEntry$State;").before a0 Z = true := hw _ (List.mem_of_getElem? (i := 0) rfl)
theorem ow1 {Z : State} {a0 : Array Value} (hw : ∀ d ∈ tables_1, d.before a0 Z = true) : (Jvm.Cond.initialized "com/example/orderly_migration/orderlymigration/core/RecordEntry$State").before a0 Z = true := hw _ (List.mem_of_getElem? (i := 1) rfl)
theorem ow2 {Z : State} {a0 : Array Value} (hw : ∀ d ∈ tables_1, d.before a0 Z = true) : (Jvm.Cond.laysStatic "com/example/orderly_migration/orderlymigration/core/RecordEntry$State" "APPLIED" "Lcom/example/orderly_migration/orderlymigration/core/RecordEntry$State;").before a0 Z = true := hw _ (List.mem_of_getElem? (i := 2) rfl)
theorem ow3 {Z : State} {a0 : Array Value} (hw : ∀ d ∈ tables_1, d.before a0 Z = true) : (Jvm.Cond.methodLink "com/example/orderly_migration/orderlymigration/core/StateCountsAsAppliedPinLaw" (22 : Nat) ({ cls := "com/example/orderly_migration/orderlymigration/core/RecordEntry$State", name := "countsAsApplied", desc := "()Z" } : Jvm.MethodName)).before a0 Z = true := hw _ (List.mem_of_getElem? (i := 3) rfl)
theorem ow4 {Z : State} {a0 : Array Value} (hw : ∀ d ∈ tables_1, d.before a0 Z = true) : (Jvm.Cond.declares ({ cls := "com/example/orderly_migration/orderlymigration/core/RecordEntry$State", name := "countsAsApplied", desc := "()Z" } : Jvm.MethodName)).before a0 Z = true := hw _ (List.mem_of_getElem? (i := 4) rfl)
theorem ow5 {Z : State} {a0 : Array Value} (hw : ∀ d ∈ tables_1, d.before a0 Z = true) : (Jvm.Cond.instanceMethod ({ cls := "com/example/orderly_migration/orderlymigration/core/RecordEntry$State", name := "countsAsApplied", desc := "()Z" } : Jvm.MethodName)).before a0 Z = true := hw _ (List.mem_of_getElem? (i := 5) rfl)
theorem ow6 {Z : State} {a0 : Array Value} (hw : ∀ d ∈ tables_1, d.before a0 Z = true) : (Jvm.Cond.selects "com/example/orderly_migration/orderlymigration/core/RecordEntry$State" ({ cls := "com/example/orderly_migration/orderlymigration/core/RecordEntry$State", name := "countsAsApplied", desc := "()Z" } : Jvm.MethodName) ({ cls := "com/example/orderly_migration/orderlymigration/core/RecordEntry$State", name := "countsAsApplied", desc := "()Z" } : Jvm.MethodName)).before a0 Z = true := hw _ (List.mem_of_getElem? (i := 6) rfl)
theorem ow7 {Z : State} {a0 : Array Value} (hw : ∀ d ∈ tables_1, d.before a0 Z = true) : (Jvm.Cond.code ({ cls := "com/example/orderly_migration/orderlymigration/core/RecordEntry$State", name := "countsAsApplied", desc := "()Z" } : Jvm.MethodName) prog_43_method_4_code (1 : Nat) (Option.some Jvm.ClassFile.FieldType.boolean)).before a0 Z = true := hw _ (List.mem_of_getElem? (i := 7) rfl)
theorem ow8 {Z : State} {a0 : Array Value} (hw : ∀ d ∈ tables_1, d.before a0 Z = true) : (Jvm.Cond.fieldLink "com/example/orderly_migration/orderlymigration/core/RecordEntry$State" (3 : Nat) "com/example/orderly_migration/orderlymigration/core/RecordEntry$State" "APPLIED" "Lcom/example/orderly_migration/orderlymigration/core/RecordEntry$State;").before a0 Z = true := hw _ (List.mem_of_getElem? (i := 8) rfl)
theorem ow9 {Z : State} {a0 : Array Value} (hw : ∀ d ∈ tables_1, d.before a0 Z = true) : (Jvm.Cond.fieldLink "com/example/orderly_migration/orderlymigration/core/StateCountsAsAppliedPinLaw" (19 : Nat) "com/example/orderly_migration/orderlymigration/core/RecordEntry$State" "STARTED" "Lcom/example/orderly_migration/orderlymigration/core/RecordEntry$State;").before a0 Z = true := hw _ (List.mem_of_getElem? (i := 9) rfl)
theorem ow10 {Z : State} {a0 : Array Value} (hw : ∀ d ∈ tables_1, d.before a0 Z = true) : (Jvm.Cond.laysStatic "com/example/orderly_migration/orderlymigration/core/RecordEntry$State" "STARTED" "Lcom/example/orderly_migration/orderlymigration/core/RecordEntry$State;").before a0 Z = true := hw _ (List.mem_of_getElem? (i := 10) rfl)
theorem ow11 {Z : State} {a0 : Array Value} (hw : ∀ d ∈ tables_1, d.before a0 Z = true) : (Jvm.Cond.fieldLink "com/example/orderly_migration/orderlymigration/core/RecordEntry$State" (10 : Nat) "com/example/orderly_migration/orderlymigration/core/RecordEntry$State" "BASELINE" "Lcom/example/orderly_migration/orderlymigration/core/RecordEntry$State;").before a0 Z = true := hw _ (List.mem_of_getElem? (i := 11) rfl)
theorem ow12 {Z : State} {a0 : Array Value} (hw : ∀ d ∈ tables_1, d.before a0 Z = true) : (Jvm.Cond.laysStatic "com/example/orderly_migration/orderlymigration/core/RecordEntry$State" "BASELINE" "Lcom/example/orderly_migration/orderlymigration/core/RecordEntry$State;").before a0 Z = true := hw _ (List.mem_of_getElem? (i := 12) rfl)
theorem ow13 {Z : State} {a0 : Array Value} (hw : ∀ d ∈ tables_1, d.before a0 Z = true) : (Jvm.Cond.fieldLink "com/example/orderly_migration/orderlymigration/core/StateCountsAsAppliedPinLaw" (16 : Nat) "com/example/orderly_migration/orderlymigration/core/RecordEntry$State" "BASELINE" "Lcom/example/orderly_migration/orderlymigration/core/RecordEntry$State;").before a0 Z = true := hw _ (List.mem_of_getElem? (i := 13) rfl)
theorem ow14 {Z : State} {a0 : Array Value} (hw : ∀ d ∈ tables_1, d.before a0 Z = true) : (Jvm.Cond.fieldLink "com/example/orderly_migration/orderlymigration/core/StateCountsAsAppliedPinLaw" (13 : Nat) "com/example/orderly_migration/orderlymigration/core/RecordEntry$State" "FAILED" "Lcom/example/orderly_migration/orderlymigration/core/RecordEntry$State;").before a0 Z = true := hw _ (List.mem_of_getElem? (i := 14) rfl)
theorem ow15 {Z : State} {a0 : Array Value} (hw : ∀ d ∈ tables_1, d.before a0 Z = true) : (Jvm.Cond.laysStatic "com/example/orderly_migration/orderlymigration/core/RecordEntry$State" "FAILED" "Lcom/example/orderly_migration/orderlymigration/core/RecordEntry$State;").before a0 Z = true := hw _ (List.mem_of_getElem? (i := 15) rfl)
def own_cnt (a aA aB : Addr) : Int32 := if (Value.ref a : Value) = Value.ref aA then 1 else if (Value.ref a : Value) = Value.ref aB then 1 else 0

theorem pn0 : plainName "com/example/orderly_migration/orderlymigration/core/RecordEntry$State" = true := by first | (simp [plainName, overriddenIn]; done) | decide +kernel
theorem d_prog_43_method_4_0 : decode prog_43_method_4_code 0 = .ok (.aload_n 0, 1) := by decide +kernel
theorem d_prog_43_method_4_1 : decode prog_43_method_4_code 1 = .ok (.getstatic 3, 3) := by decide +kernel
theorem d_prog_43_method_4_4 : decode prog_43_method_4_code 4 = .ok (.if_acmp .eq 10, 3) := by decide +kernel
theorem d_prog_43_method_4_14 : decode prog_43_method_4_code 14 = .ok (.iconst 1, 1) := by decide +kernel
theorem d_prog_43_method_4_15 : decode prog_43_method_4_code 15 = .ok (.goto 4, 3) := by decide +kernel
theorem d_prog_43_method_4_19 : decode prog_43_method_4_code 19 = .ok (.ireturn, 1) := by decide +kernel
theorem d_prog_43_method_4_7 : decode prog_43_method_4_code 7 = .ok (.aload_n 0, 1) := by decide +kernel
theorem d_prog_43_method_4_8 : decode prog_43_method_4_code 8 = .ok (.getstatic 10, 3) := by decide +kernel
theorem d_prog_43_method_4_11 : decode prog_43_method_4_code 11 = .ok (.if_acmp .ne 7, 3) := by decide +kernel
theorem d_prog_43_method_4_18 : decode prog_43_method_4_code 18 = .ok (.iconst 0, 1) := by decide +kernel
theorem ef_rm1 (m : MethodId) (x0 : Addr) : entryFrame m #[(.ref x0)] 1 = mkF m 0 #[.val (.ref x0)] [] := by first | (simp [entryFrame, mkF, argsToLocals, Value.category]; done) | rfl
def Q_rm1 (Z : State) (a : Addr) (aA : Addr) (aB : Addr) (h0 : Heap) (n0 : Nat) (v : Option Value) (h : Heap) (L : List Loc) : Prop := v = some (.int (own_cnt a aA aB)) ∧ Fr n0 L ∧ h = h0
set_option maxRecDepth 65536 in
set_option maxHeartbeats 40000000 in
theorem rm1 (l : Launch) (Z : State) (a0 : Array Value) (hw : ∀ d ∈ tables_1, d.before a0 Z = true) (ws : List Jvm.Cond) (a : Addr) (aA : Addr) (aB : Addr) (h0 : Heap) (n0 : Nat) (Z0 : n0 ≤ h0.size) (S_A : Sta Z h0 "com/example/orderly_migration/orderlymigration/core/RecordEntry$State" "APPLIED" "Lcom/example/orderly_migration/orderlymigration/core/RecordEntry$State;" (.ref aA)) (S_B : Sta Z h0 "com/example/orderly_migration/orderlymigration/core/RecordEntry$State" "BASELINE" "Lcom/example/orderly_migration/orderlymigration/core/RecordEntry$State;" (.ref aB)) :
    OCon l Z (⟨"com/example/orderly_migration/orderlymigration/core/RecordEntry$State", "countsAsApplied", "()Z"⟩ : MethodName) prog_43_method_4_code 1 (some .boolean) ws ({ frames := 0, cells := 0, slots := 0, locals := 0 } : Room) #[(.ref a)] h0 (Q_rm1 Z a aA aB h0 n0) := by
  refine OCon.of (plainFor_of_name pn0) ?_
  intro p e s m below meth c s₁ Φ X0 hx hby hml hown hnm hret hlk hZ e0 hΦ
  have N0 := Fr.nil n0
  refine OGo.st (fun _ kz => castTop (ef_rm1 m a) kz) ?_
  show OGo p.tables e below Φ (s₁.setTop (mkF m 0 #[.val (.ref a)] []))
  refine OGo.st (fun _ kz => XS.aloadN X0.here hx rfl (hb hby d_prog_43_method_4_0) rfl rfl kz) ?_
  show OGo p.tables e below Φ (s₁.setTop (mkF m 1 #[.val (.ref a)] [(.ref a)]))
  obtain ⟨T1, X1, e1, st1⟩ := getS2 X0 hx hZ hown (host := "") (Or.inl (ow8 hw)) Via.refl e0 S_A (g := (mkF m 1 #[.val (.ref a)] [(.ref a)])) rfl (hb hby d_prog_43_method_4_1)
  refine OGo.st st1 ?_
  show OGo p.tables e below Φ (T1.setTop (mkF m 4 #[.val (.ref a)] [(.ref aA), (.ref a)]))
  by_cases hc2 : ((.ref a) : Value) = (.ref aA)
  · refine OGo.st (fun _ kz => XT.acmpYes X1.here hx rfl (pc0 := 4) (pc' := 14) rfl (hb hby d_prog_43_method_4_4) rfl rfl rfl (XT.aa_eq_t hc2) (by decide) (by decide) kz) ?_
    show OGo p.tables e below Φ (T1.setTop (mkF m 14 #[.val (.ref a)] []))
    refine OGo.st (fun _ kz => XS.iconst X1.here hx rfl (hb hby d_prog_43_method_4_14) kz) ?_
    show OGo p.tables e below Φ (T1.setTop (mkF m 15 #[.val (.ref a)] [(.int (1 : Int32))]))
    refine OGo.st (fun _ kz => XS.goto X1.here hx rfl (pc0 := 15) (pc' := 19) rfl (hb hby d_prog_43_method_4_15) (by decide) (by decide) kz) ?_
    show OGo p.tables e below Φ (T1.setTop (mkF m 19 #[.val (.ref a)] [(.int (1 : Int32))]))
    refine OGo.fin X1 hlk (v := (some (.int (1 : Int32)))) (fun h => by rw [hret] at h; cases h) (by decide) (by decide) (fun fs hr => X1.ireturnOut hx hret rfl (by simp) (hb hby d_prog_43_method_4_19) hr) fun U eU hF => hΦ _ _ _ ?_ hF
    rw [eU, e1]
    show Q_rm1 Z a aA aB h0 n0 _ _ _
    exact ⟨by simp [own_cnt, hc2], N0, rfl⟩
  · refine OGo.st (fun _ kz => XT.acmpNo X1.here hx rfl (hb hby d_prog_43_method_4_4) rfl rfl rfl (XT.aa_eq_f hc2) kz) ?_
    show OGo p.tables e below Φ (T1.setTop (mkF m 7 #[.val (.ref a)] []))
    refine OGo.st (fun _ kz => XS.aloadN X1.here hx rfl (hb hby d_prog_43_method_4_7) rfl rfl kz) ?_
    show OGo p.tables e below Φ (T1.setTop (mkF m 8 #[.val (.ref a)] [(.ref a)]))
    obtain ⟨T3, X3, e3, st3⟩ := getS2 X1 hx hZ hown (host := "") (Or.inl (ow11 hw)) Via.refl e1 S_B (g := (mkF m 8 #[.val (.ref a)] [(.ref a)])) rfl (hb hby d_prog_43_method_4_8)
    refine OGo.st st3 ?_
    show OGo p.tables e below Φ (T3.setTop (mkF m 11 #[.val (.ref a)] [(.ref aB), (.ref a)]))
    by_cases hc4 : ((.ref a) : Value) = (.ref aB)
    · refine OGo.st (fun _ kz => XT.acmpNo X3.here hx rfl (hb hby d_prog_43_method_4_11) rfl rfl rfl (XT.aa_ne_f hc4) kz) ?_
      show OGo p.tables e below Φ (T3.setTop (mkF m 14 #[.val (.ref a)] []))
      refine OGo.st (fun _ kz => XS.iconst X3.here hx rfl (hb hby d_prog_43_method_4_14) kz) ?_
      show OGo p.tables e below Φ (T3.setTop (mkF m 15 #[.val (.ref a)] [(.int (1 : Int32))]))
      refine OGo.st (fun _ kz => XS.goto X3.here hx rfl (pc0 := 15) (pc' := 19) rfl (hb hby d_prog_43_method_4_15) (by decide) (by decide) kz) ?_
      show OGo p.tables e below Φ (T3.setTop (mkF m 19 #[.val (.ref a)] [(.int (1 : Int32))]))
      refine OGo.fin X3 hlk (v := (some (.int (1 : Int32)))) (fun h => by rw [hret] at h; cases h) (by decide) (by decide) (fun fs hr => X3.ireturnOut hx hret rfl (by simp) (hb hby d_prog_43_method_4_19) hr) fun U eU hF => hΦ _ _ _ ?_ hF
      rw [eU, e3]
      show Q_rm1 Z a aA aB h0 n0 _ _ _
      exact ⟨by simp [own_cnt, hc2, hc4], N0, rfl⟩
    · refine OGo.st (fun _ kz => XT.acmpYes X3.here hx rfl (pc0 := 11) (pc' := 18) rfl (hb hby d_prog_43_method_4_11) rfl rfl rfl (XT.aa_ne_t hc4) (by decide) (by decide) kz) ?_
      show OGo p.tables e below Φ (T3.setTop (mkF m 18 #[.val (.ref a)] []))
      refine OGo.st (fun _ kz => XS.iconst X3.here hx rfl (hb hby d_prog_43_method_4_18) kz) ?_
      show OGo p.tables e below Φ (T3.setTop (mkF m 19 #[.val (.ref a)] [(.int (0 : Int32))]))
      refine OGo.fin X3 hlk (v := (some (.int (0 : Int32)))) (fun h => by rw [hret] at h; cases h) (by decide) (by decide) (fun fs hr => X3.ireturnOut hx hret rfl (by simp) (hb hby d_prog_43_method_4_19) hr) fun U eU hF => hΦ _ _ _ ?_ hF
      rw [eU, e3]
      show Q_rm1 Z a aA aB h0 n0 _ _ _
      exact ⟨by simp [own_cnt, hc2, hc4], N0, rfl⟩

theorem pn1 : plainName "com/example/orderly_migration/orderlymigration/core/StateCountsAsAppliedPinLaw" = true := by first | (simp [plainName, overriddenIn]; done) | decide +kernel
theorem pd0 : parseMethodDescriptor "()Z" = some ⟨[], some .boolean⟩ := by decide +kernel
theorem ef_rm0 (m : MethodId) (x0 : Int32) : entryFrame m #[(.int x0)] maxLocals = mkF m 0 #[.val (.int x0), .unset, .unset, .unset] [] := by first | (simp [entryFrame, mkF, argsToLocals, Value.category, maxLocals]; done) | rfl
def Q_rm0 (Z : State) (k : Int32) (aA : Addr) (aF : Addr) (aB : Addr) (aS : Addr) (h0 : Heap) (n0 : Nat) (v : Option Value) (h : Heap) (L : List Loc) : Prop := v = some (.int (1 : Int32)) ∧ Fr n0 L
set_option maxRecDepth 65536 in
set_option maxHeartbeats 40000000 in
theorem rm0 (l : Launch) (Z : State) (a0 : Array Value) (hw : ∀ d ∈ tables_1, d.before a0 Z = true) (ws : List Jvm.Cond) (k : Int32) (aA : Addr) (aF : Addr) (aB : Addr) (aS : Addr) (h0 : Heap) (n0 : Nat) (Z0 : n0 ≤ h0.size) (S_A : Sta Z h0 "com/example/orderly_migration/orderlymigration/core/RecordEntry$State" "APPLIED" "Lcom/example/orderly_migration/orderlymigration/core/RecordEntry$State;" (.ref aA)) (S_F : Sta Z h0 "com/example/orderly_migration/orderlymigration/core/RecordEntry$State" "FAILED" "Lcom/example/orderly_migration/orderlymigration/core/RecordEntry$State;" (.ref aF)) (S_B : Sta Z h0 "com/example/orderly_migration/orderlymigration/core/RecordEntry$State" "BASELINE" "Lcom/example/orderly_migration/orderlymigration/core/RecordEntry$State;" (.ref aB)) (S_S : Sta Z h0 "com/example/orderly_migration/orderlymigration/core/RecordEntry$State" "STARTED" "Lcom/example/orderly_migration/orderlymigration/core/RecordEntry$State;" (.ref aS)) (E_A : Exa Z h0 aA "com/example/orderly_migration/orderlymigration/core/RecordEntry$State") (E_F : Exa Z h0 aF "com/example/orderly_migration/orderlymigration/core/RecordEntry$State") (E_B : Exa Z h0 aB "com/example/orderly_migration/orderlymigration/core/RecordEntry$State") (E_S : Exa Z h0 aS "com/example/orderly_migration/orderlymigration/core/RecordEntry$State") (nFA : aF ≠ aA) (nFB : aF ≠ aB) (nSA : aS ≠ aA) (nSB : aS ≠ aB) :
    OCon l Z x code maxLocals ret ws room_1 #[(.int k)] h0 (Q_rm0 Z k aA aF aB aS h0 n0) := by
  refine OCon.of (plainFor_of_name pn1) ?_
  intro p e s m below meth c s₁ Φ X0 hx hby hml hown hnm hret hlk hZ e0 hΦ
  have N0 := Fr.nil n0
  refine OGo.st (fun _ kz => castTop (ef_rm0 m k) kz) ?_
  show OGo p.tables e below Φ (s₁.setTop (mkF m 0 #[.val (.int k), .unset, .unset, .unset] []))
  refine OGo.st (fun _ kz => XS.iloadN X0.here hx rfl (hb hby at_0) rfl kz) ?_
  show OGo p.tables e below Φ (s₁.setTop (mkF m 1 #[.val (.int k), .unset, .unset, .unset] [(.int k)]))
  refine OGo.st (fun _ kz => XS.iconst X0.here hx rfl (hb hby at_1) kz) ?_
  show OGo p.tables e below Φ (s₁.setTop (mkF m 2 #[.val (.int k), .unset, .unset, .unset] [(.int (3 : Int32)), (.int k)]))
  refine OGo.st (fun _ kz => XS.iand X0.here hx rfl (hb hby at_2) rfl kz) ?_
  show OGo p.tables e below Φ (s₁.setTop (mkF m 3 #[.val (.int k), .unset, .unset, .unset] [(.int (k &&& (3 : Int32)))]))
  refine OGo.st (fun _ kz => XS.istoreN X0.here hx rfl (hb hby at_3) rfl (l' := #[.val (.int k), .val (.int (k &&& (3 : Int32))), .unset, .unset]) rfl kz) ?_
  show OGo p.tables e below Φ (s₁.setTop (mkF m 4 #[.val (.int k), .val (.int (k &&& (3 : Int32))), .unset, .unset] []))
  refine OGo.st (fun _ kz => XS.iloadN X0.here hx rfl (hb hby at_4) rfl kz) ?_
  show OGo p.tables e below Φ (s₁.setTop (mkF m 5 #[.val (.int k), .val (.int (k &&& (3 : Int32))), .unset, .unset] [(.int (k &&& (3 : Int32)))]))
  by_cases hc1 : (k &&& (3 : Int32)) = 0
  · refine OGo.st (fun _ kz => XS.ifNo X0.here hx rfl (hb hby at_5) rfl (XT.i0_ne_f hc1) kz) ?_
    show OGo p.tables e below Φ (s₁.setTop (mkF m 8 #[.val (.int k), .val (.int (k &&& (3 : Int32))), .unset, .unset] []))
    obtain ⟨T2, X2, e2, st2⟩ := getS2 X0 hx hZ hown (host := "") (Or.inl (ow0 hw)) Via.refl e0 S_A (g := (mkF m 8 #[.val (.int k), .val (.int (k &&& (3 : Int32))), .unset, .unset] [])) rfl (hb hby at_8)
    refine OGo.st st2 ?_
    show OGo p.tables e below Φ (T2.setTop (mkF m 11 #[.val (.int k), .val (.int (k &&& (3 : Int32))), .unset, .unset] [(.ref aA)]))
    refine OGo.st (fun _ kz => XS.astoreN X2.here hx rfl (hb hby at_11) rfl rfl (l' := #[.val (.int k), .val (.int (k &&& (3 : Int32))), .val (.ref aA), .unset]) rfl kz) ?_
    show OGo p.tables e below Φ (T2.setTop (mkF m 12 #[.val (.int k), .val (.int (k &&& (3 : Int32))), .val (.ref aA), .unset] []))
    refine OGo.st (fun _ kz => XS.iconst X2.here hx rfl (hb hby at_12) kz) ?_
    show OGo p.tables e below Φ (T2.setTop (mkF m 13 #[.val (.int k), .val (.int (k &&& (3 : Int32))), .val (.ref aA), .unset] [(.int (1 : Int32))]))
    refine OGo.st (fun _ kz => XS.istoreN X2.here hx rfl (hb hby at_13) rfl (l' := #[.val (.int k), .val (.int (k &&& (3 : Int32))), .val (.ref aA), .val (.int (1 : Int32))]) rfl kz) ?_
    show OGo p.tables e below Φ (T2.setTop (mkF m 14 #[.val (.int k), .val (.int (k &&& (3 : Int32))), .val (.ref aA), .val (.int (1 : Int32))] []))
    refine OGo.st (fun _ kz => XS.goto X2.here hx rfl (pc0 := 14) (pc' := 51) rfl (hb hby at_14) (by decide) (by decide) kz) ?_
    show OGo p.tables e below Φ (T2.setTop (mkF m 51 #[.val (.int k), .val (.int (k &&& (3 : Int32))), .val (.ref aA), .val (.int (1 : Int32))] []))
    refine OGo.st (fun _ kz => XS.aloadN X2.here hx rfl (hb hby at_51) rfl rfl kz) ?_
    show OGo p.tables e below Φ (T2.setTop (mkF m 52 #[.val (.int k), .val (.int (k &&& (3 : Int32))), .val (.ref aA), .val (.int (1 : Int32))] [(.ref aA)]))
    obtain ⟨_, T3, L3, X3, hQ3, st3⟩ := own_callVi X2 hx hZ hown (ow3 hw) (ow4 hw) (notFace_of_selects (args := #[]) (mvT hZ (ow6 hw))) (ow6 hw) (ow5 hw) (ow1 hw) (ow7 hw) (by decide) (rm1 l Z a0 hw [] aA aA aB h0 n0 Z0 S_A S_B) e2 (W := 0) (by decide) (by decide) (by decide) (by decide) E_A (pc := 52) (ls := #[.val (.int k), .val (.int (k &&& (3 : Int32))), .val (.ref aA), .val (.int (1 : Int32))]) (stk := [(.ref aA)]) (by rw [hml]; rfl) (argsL := []) (rest := []) (lenOf pd0 rfl) rfl rfl (Nat.le_of_eq rfl) (hb hby at_52)
    obtain ⟨rfl, Nq3, e3⟩ := hQ3
    have N3 := Fr.app N0 Nq3
    refine OGo.st st3 ?_
    show OGo p.tables e below Φ (T3.setTop (mkF m 55 #[.val (.int k), .val (.int (k &&& (3 : Int32))), .val (.ref aA), .val (.int (1 : Int32))] [(.int (own_cnt aA aA aB))]))
    refine OGo.st (fun _ kz => XS.iloadN X3.here hx rfl (hb hby at_55) rfl kz) ?_
    show OGo p.tables e below Φ (T3.setTop (mkF m 56 #[.val (.int k), .val (.int (k &&& (3 : Int32))), .val (.ref aA), .val (.int (1 : Int32))] [(.int (1 : Int32)), (.int (own_cnt aA aA aB))]))
    by_cases hc4 : (own_cnt aA aA aB) = (1 : Int32)
    · refine OGo.st (fun _ kz => XS.icmpNo X3.here hx rfl (hb hby at_56) rfl (XT.ii_ne_f hc4) kz) ?_
      show OGo p.tables e below Φ (T3.setTop (mkF m 59 #[.val (.int k), .val (.int (k &&& (3 : Int32))), .val (.ref aA), .val (.int (1 : Int32))] []))
      refine OGo.st (fun _ kz => XS.iconst X3.here hx rfl (hb hby at_59) kz) ?_
      show OGo p.tables e below Φ (T3.setTop (mkF m 60 #[.val (.int k), .val (.int (k &&& (3 : Int32))), .val (.ref aA), .val (.int (1 : Int32))] [(.int (1 : Int32))]))
      refine OGo.st (fun _ kz => XS.goto X3.here hx rfl (pc0 := 60) (pc' := 64) rfl (hb hby at_60) (by decide) (by decide) kz) ?_
      show OGo p.tables e below Φ (T3.setTop (mkF m 64 #[.val (.int k), .val (.int (k &&& (3 : Int32))), .val (.ref aA), .val (.int (1 : Int32))] [(.int (1 : Int32))]))
      refine OGo.fin X3 hlk (v := (some (.int (1 : Int32)))) (fun h => by rw [hret] at h; cases h) (by decide) (by decide) (fun fs hr => X3.ireturnOut hx hret rfl (by simp) (hb hby at_64) hr) fun U eU hF => hΦ _ _ _ ?_ hF
      rw [eU, e3]
      show Q_rm0 Z k aA aF aB aS h0 n0 _ _ _
      exact ⟨rfl, N3⟩
    · refine OGo.st (fun _ kz => XS.icmpYes X3.here hx rfl (pc0 := 56) (pc' := 63) rfl (hb hby at_56) rfl (XT.ii_ne_t hc4) (by decide) (by decide) kz) ?_
      show OGo p.tables e below Φ (T3.setTop (mkF m 63 #[.val (.int k), .val (.int (k &&& (3 : Int32))), .val (.ref aA), .val (.int (1 : Int32))] []))
      refine OGo.st (fun _ kz => XS.iconst X3.here hx rfl (hb hby at_63) kz) ?_
      show OGo p.tables e below Φ (T3.setTop (mkF m 64 #[.val (.int k), .val (.int (k &&& (3 : Int32))), .val (.ref aA), .val (.int (1 : Int32))] [(.int (0 : Int32))]))
      exact absurd (by simp [own_cnt, nFA, nFB, nSA, nSB]) hc4
  · refine OGo.st (fun _ kz => XS.ifYes X0.here hx rfl (pc0 := 5) (pc' := 17) rfl (hb hby at_5) rfl (XT.i0_ne_t hc1) (by decide) (by decide) kz) ?_
    show OGo p.tables e below Φ (s₁.setTop (mkF m 17 #[.val (.int k), .val (.int (k &&& (3 : Int32))), .unset, .unset] []))
    refine OGo.st (fun _ kz => XS.iloadN X0.here hx rfl (hb hby at_17) rfl kz) ?_
    show OGo p.tables e below Φ (s₁.setTop (mkF m 18 #[.val (.int k), .val (.int (k &&& (3 : Int32))), .unset, .unset] [(.int (k &&& (3 : Int32)))]))
    refine OGo.st (fun _ kz => XS.iconst X0.here hx rfl (hb hby at_18) kz) ?_
    show OGo p.tables e below Φ (s₁.setTop (mkF m 19 #[.val (.int k), .val (.int (k &&& (3 : Int32))), .unset, .unset] [(.int (1 : Int32)), (.int (k &&& (3 : Int32)))]))
    by_cases hc5 : (k &&& (3 : Int32)) = (1 : Int32)
    · refine OGo.st (fun _ kz => XS.icmpNo X0.here hx rfl (hb hby at_19) rfl (XT.ii_ne_f hc5) kz) ?_
      show OGo p.tables e below Φ (s₁.setTop (mkF m 22 #[.val (.int k), .val (.int (k &&& (3 : Int32))), .unset, .unset] []))
      obtain ⟨T6, X6, e6, st6⟩ := getS2 X0 hx hZ hown (host := "") (Or.inl (ow14 hw)) Via.refl e0 S_F (g := (mkF m 22 #[.val (.int k), .val (.int (k &&& (3 : Int32))), .unset, .unset] [])) rfl (hb hby at_22)
      refine OGo.st st6 ?_
      show OGo p.tables e below Φ (T6.setTop (mkF m 25 #[.val (.int k), .val (.int (k &&& (3 : Int32))), .unset, .unset] [(.ref aF)]))
      refine OGo.st (fun _ kz => XS.astoreN X6.here hx rfl (hb hby at_25) rfl rfl (l' := #[.val (.int k), .val (.int (k &&& (3 : Int32))), .val (.ref aF), .unset]) rfl kz) ?_
      show OGo p.tables e below Φ (T6.setTop (mkF m 26 #[.val (.int k), .val (.int (k &&& (3 : Int32))), .val (.ref aF), .unset] []))
      refine OGo.st (fun _ kz => XS.iconst X6.here hx rfl (hb hby at_26) kz) ?_
      show OGo p.tables e below Φ (T6.setTop (mkF m 27 #[.val (.int k), .val (.int (k &&& (3 : Int32))), .val (.ref aF), .unset] [(.int (0 : Int32))]))
      refine OGo.st (fun _ kz => XS.istoreN X6.here hx rfl (hb hby at_27) rfl (l' := #[.val (.int k), .val (.int (k &&& (3 : Int32))), .val (.ref aF), .val (.int (0 : Int32))]) rfl kz) ?_
      show OGo p.tables e below Φ (T6.setTop (mkF m 28 #[.val (.int k), .val (.int (k &&& (3 : Int32))), .val (.ref aF), .val (.int (0 : Int32))] []))
      refine OGo.st (fun _ kz => XS.goto X6.here hx rfl (pc0 := 28) (pc' := 51) rfl (hb hby at_28) (by decide) (by decide) kz) ?_
      show OGo p.tables e below Φ (T6.setTop (mkF m 51 #[.val (.int k), .val (.int (k &&& (3 : Int32))), .val (.ref aF), .val (.int (0 : Int32))] []))
      refine OGo.st (fun _ kz => XS.aloadN X6.here hx rfl (hb hby at_51) rfl rfl kz) ?_
      show OGo p.tables e below Φ (T6.setTop (mkF m 52 #[.val (.int k), .val (.int (k &&& (3 : Int32))), .val (.ref aF), .val (.int (0 : Int32))] [(.ref aF)]))
      obtain ⟨_, T7, L7, X7, hQ7, st7⟩ := own_callVi X6 hx hZ hown (ow3 hw) (ow4 hw) (notFace_of_selects (args := #[]) (mvT hZ (ow6 hw))) (ow6 hw) (ow5 hw) (ow1 hw) (ow7 hw) (by decide) (rm1 l Z a0 hw [] aF aA aB h0 n0 Z0 S_A S_B) e6 (W := 0) (by decide) (by decide) (by decide) (by decide) E_F (pc := 52) (ls := #[.val (.int k), .val (.int (k &&& (3 : Int32))), .val (.ref aF), .val (.int (0 : Int32))]) (stk := [(.ref aF)]) (by rw [hml]; rfl) (argsL := []) (rest := []) (lenOf pd0 rfl) rfl rfl (Nat.le_of_eq rfl) (hb hby at_52)
      obtain ⟨rfl, Nq7, e7⟩ := hQ7
      have N7 := Fr.app N0 Nq7
      refine OGo.st st7 ?_
      show OGo p.tables e below Φ (T7.setTop (mkF m 55 #[.val (.int k), .val (.int (k &&& (3 : Int32))), .val (.ref aF), .val (.int (0 : Int32))] [(.int (own_cnt aF aA aB))]))
      refine OGo.st (fun _ kz => XS.iloadN X7.here hx rfl (hb hby at_55) rfl kz) ?_
      show OGo p.tables e below Φ (T7.setTop (mkF m 56 #[.val (.int k), .val (.int (k &&& (3 : Int32))), .val (.ref aF), .val (.int (0 : Int32))] [(.int (0 : Int32)), (.int (own_cnt aF aA aB))]))
      by_cases hc8 : (own_cnt aF aA aB) = (0 : Int32)
      · refine OGo.st (fun _ kz => XS.icmpNo X7.here hx rfl (hb hby at_56) rfl (XT.ii_ne_f hc8) kz) ?_
        show OGo p.tables e below Φ (T7.setTop (mkF m 59 #[.val (.int k), .val (.int (k &&& (3 : Int32))), .val (.ref aF), .val (.int (0 : Int32))] []))
        refine OGo.st (fun _ kz => XS.iconst X7.here hx rfl (hb hby at_59) kz) ?_
        show OGo p.tables e below Φ (T7.setTop (mkF m 60 #[.val (.int k), .val (.int (k &&& (3 : Int32))), .val (.ref aF), .val (.int (0 : Int32))] [(.int (1 : Int32))]))
        refine OGo.st (fun _ kz => XS.goto X7.here hx rfl (pc0 := 60) (pc' := 64) rfl (hb hby at_60) (by decide) (by decide) kz) ?_
        show OGo p.tables e below Φ (T7.setTop (mkF m 64 #[.val (.int k), .val (.int (k &&& (3 : Int32))), .val (.ref aF), .val (.int (0 : Int32))] [(.int (1 : Int32))]))
        refine OGo.fin X7 hlk (v := (some (.int (1 : Int32)))) (fun h => by rw [hret] at h; cases h) (by decide) (by decide) (fun fs hr => X7.ireturnOut hx hret rfl (by simp) (hb hby at_64) hr) fun U eU hF => hΦ _ _ _ ?_ hF
        rw [eU, e7]
        show Q_rm0 Z k aA aF aB aS h0 n0 _ _ _
        exact ⟨rfl, N7⟩
      · refine OGo.st (fun _ kz => XS.icmpYes X7.here hx rfl (pc0 := 56) (pc' := 63) rfl (hb hby at_56) rfl (XT.ii_ne_t hc8) (by decide) (by decide) kz) ?_
        show OGo p.tables e below Φ (T7.setTop (mkF m 63 #[.val (.int k), .val (.int (k &&& (3 : Int32))), .val (.ref aF), .val (.int (0 : Int32))] []))
        refine OGo.st (fun _ kz => XS.iconst X7.here hx rfl (hb hby at_63) kz) ?_
        show OGo p.tables e below Φ (T7.setTop (mkF m 64 #[.val (.int k), .val (.int (k &&& (3 : Int32))), .val (.ref aF), .val (.int (0 : Int32))] [(.int (0 : Int32))]))
        exact absurd (by simp [own_cnt, nFA, nFB, nSA, nSB]) hc8
    · refine OGo.st (fun _ kz => XS.icmpYes X0.here hx rfl (pc0 := 19) (pc' := 31) rfl (hb hby at_19) rfl (XT.ii_ne_t hc5) (by decide) (by decide) kz) ?_
      show OGo p.tables e below Φ (s₁.setTop (mkF m 31 #[.val (.int k), .val (.int (k &&& (3 : Int32))), .unset, .unset] []))
      refine OGo.st (fun _ kz => XS.iloadN X0.here hx rfl (hb hby at_31) rfl kz) ?_
      show OGo p.tables e below Φ (s₁.setTop (mkF m 32 #[.val (.int k), .val (.int (k &&& (3 : Int32))), .unset, .unset] [(.int (k &&& (3 : Int32)))]))
      refine OGo.st (fun _ kz => XS.iconst X0.here hx rfl (hb hby at_32) kz) ?_
      show OGo p.tables e below Φ (s₁.setTop (mkF m 33 #[.val (.int k), .val (.int (k &&& (3 : Int32))), .unset, .unset] [(.int (2 : Int32)), (.int (k &&& (3 : Int32)))]))
      by_cases hc9 : (k &&& (3 : Int32)) = (2 : Int32)
      · refine OGo.st (fun _ kz => XS.icmpNo X0.here hx rfl (hb hby at_33) rfl (XT.ii_ne_f hc9) kz) ?_
        show OGo p.tables e below Φ (s₁.setTop (mkF m 36 #[.val (.int k), .val (.int (k &&& (3 : Int32))), .unset, .unset] []))
        obtain ⟨T10, X10, e10, st10⟩ := getS2 X0 hx hZ hown (host := "") (Or.inl (ow13 hw)) Via.refl e0 S_B (g := (mkF m 36 #[.val (.int k), .val (.int (k &&& (3 : Int32))), .unset, .unset] [])) rfl (hb hby at_36)
        refine OGo.st st10 ?_
        show OGo p.tables e below Φ (T10.setTop (mkF m 39 #[.val (.int k), .val (.int (k &&& (3 : Int32))), .unset, .unset] [(.ref aB)]))
        refine OGo.st (fun _ kz => XS.astoreN X10.here hx rfl (hb hby at_39) rfl rfl (l' := #[.val (.int k), .val (.int (k &&& (3 : Int32))), .val (.ref aB), .unset]) rfl kz) ?_
        show OGo p.tables e below Φ (T10.setTop (mkF m 40 #[.val (.int k), .val (.int (k &&& (3 : Int32))), .val (.ref aB), .unset] []))
        refine OGo.st (fun _ kz => XS.iconst X10.here hx rfl (hb hby at_40) kz) ?_
        show OGo p.tables e below Φ (T10.setTop (mkF m 41 #[.val (.int k), .val (.int (k &&& (3 : Int32))), .val (.ref aB), .unset] [(.int (1 : Int32))]))
        refine OGo.st (fun _ kz => XS.istoreN X10.here hx rfl (hb hby at_41) rfl (l' := #[.val (.int k), .val (.int (k &&& (3 : Int32))), .val (.ref aB), .val (.int (1 : Int32))]) rfl kz) ?_
        show OGo p.tables e below Φ (T10.setTop (mkF m 42 #[.val (.int k), .val (.int (k &&& (3 : Int32))), .val (.ref aB), .val (.int (1 : Int32))] []))
        refine OGo.st (fun _ kz => XS.goto X10.here hx rfl (pc0 := 42) (pc' := 51) rfl (hb hby at_42) (by decide) (by decide) kz) ?_
        show OGo p.tables e below Φ (T10.setTop (mkF m 51 #[.val (.int k), .val (.int (k &&& (3 : Int32))), .val (.ref aB), .val (.int (1 : Int32))] []))
        refine OGo.st (fun _ kz => XS.aloadN X10.here hx rfl (hb hby at_51) rfl rfl kz) ?_
        show OGo p.tables e below Φ (T10.setTop (mkF m 52 #[.val (.int k), .val (.int (k &&& (3 : Int32))), .val (.ref aB), .val (.int (1 : Int32))] [(.ref aB)]))
        obtain ⟨_, T11, L11, X11, hQ11, st11⟩ := own_callVi X10 hx hZ hown (ow3 hw) (ow4 hw) (notFace_of_selects (args := #[]) (mvT hZ (ow6 hw))) (ow6 hw) (ow5 hw) (ow1 hw) (ow7 hw) (by decide) (rm1 l Z a0 hw [] aB aA aB h0 n0 Z0 S_A S_B) e10 (W := 0) (by decide) (by decide) (by decide) (by decide) E_B (pc := 52) (ls := #[.val (.int k), .val (.int (k &&& (3 : Int32))), .val (.ref aB), .val (.int (1 : Int32))]) (stk := [(.ref aB)]) (by rw [hml]; rfl) (argsL := []) (rest := []) (lenOf pd0 rfl) rfl rfl (Nat.le_of_eq rfl) (hb hby at_52)
        obtain ⟨rfl, Nq11, e11⟩ := hQ11
        have N11 := Fr.app N0 Nq11
        refine OGo.st st11 ?_
        show OGo p.tables e below Φ (T11.setTop (mkF m 55 #[.val (.int k), .val (.int (k &&& (3 : Int32))), .val (.ref aB), .val (.int (1 : Int32))] [(.int (own_cnt aB aA aB))]))
        refine OGo.st (fun _ kz => XS.iloadN X11.here hx rfl (hb hby at_55) rfl kz) ?_
        show OGo p.tables e below Φ (T11.setTop (mkF m 56 #[.val (.int k), .val (.int (k &&& (3 : Int32))), .val (.ref aB), .val (.int (1 : Int32))] [(.int (1 : Int32)), (.int (own_cnt aB aA aB))]))
        by_cases hc12 : (own_cnt aB aA aB) = (1 : Int32)
        · refine OGo.st (fun _ kz => XS.icmpNo X11.here hx rfl (hb hby at_56) rfl (XT.ii_ne_f hc12) kz) ?_
          show OGo p.tables e below Φ (T11.setTop (mkF m 59 #[.val (.int k), .val (.int (k &&& (3 : Int32))), .val (.ref aB), .val (.int (1 : Int32))] []))
          refine OGo.st (fun _ kz => XS.iconst X11.here hx rfl (hb hby at_59) kz) ?_
          show OGo p.tables e below Φ (T11.setTop (mkF m 60 #[.val (.int k), .val (.int (k &&& (3 : Int32))), .val (.ref aB), .val (.int (1 : Int32))] [(.int (1 : Int32))]))
          refine OGo.st (fun _ kz => XS.goto X11.here hx rfl (pc0 := 60) (pc' := 64) rfl (hb hby at_60) (by decide) (by decide) kz) ?_
          show OGo p.tables e below Φ (T11.setTop (mkF m 64 #[.val (.int k), .val (.int (k &&& (3 : Int32))), .val (.ref aB), .val (.int (1 : Int32))] [(.int (1 : Int32))]))
          refine OGo.fin X11 hlk (v := (some (.int (1 : Int32)))) (fun h => by rw [hret] at h; cases h) (by decide) (by decide) (fun fs hr => X11.ireturnOut hx hret rfl (by simp) (hb hby at_64) hr) fun U eU hF => hΦ _ _ _ ?_ hF
          rw [eU, e11]
          show Q_rm0 Z k aA aF aB aS h0 n0 _ _ _
          exact ⟨rfl, N11⟩
        · refine OGo.st (fun _ kz => XS.icmpYes X11.here hx rfl (pc0 := 56) (pc' := 63) rfl (hb hby at_56) rfl (XT.ii_ne_t hc12) (by decide) (by decide) kz) ?_
          show OGo p.tables e below Φ (T11.setTop (mkF m 63 #[.val (.int k), .val (.int (k &&& (3 : Int32))), .val (.ref aB), .val (.int (1 : Int32))] []))
          refine OGo.st (fun _ kz => XS.iconst X11.here hx rfl (hb hby at_63) kz) ?_
          show OGo p.tables e below Φ (T11.setTop (mkF m 64 #[.val (.int k), .val (.int (k &&& (3 : Int32))), .val (.ref aB), .val (.int (1 : Int32))] [(.int (0 : Int32))]))
          exact absurd (by simp [own_cnt, nFA, nFB, nSA, nSB]) hc12
      · refine OGo.st (fun _ kz => XS.icmpYes X0.here hx rfl (pc0 := 33) (pc' := 45) rfl (hb hby at_33) rfl (XT.ii_ne_t hc9) (by decide) (by decide) kz) ?_
        show OGo p.tables e below Φ (s₁.setTop (mkF m 45 #[.val (.int k), .val (.int (k &&& (3 : Int32))), .unset, .unset] []))
        obtain ⟨T13, X13, e13, st13⟩ := getS2 X0 hx hZ hown (host := "") (Or.inl (ow9 hw)) Via.refl e0 S_S (g := (mkF m 45 #[.val (.int k), .val (.int (k &&& (3 : Int32))), .unset, .unset] [])) rfl (hb hby at_45)
        refine OGo.st st13 ?_
        show OGo p.tables e below Φ (T13.setTop (mkF m 48 #[.val (.int k), .val (.int (k &&& (3 : Int32))), .unset, .unset] [(.ref aS)]))
        refine OGo.st (fun _ kz => XS.astoreN X13.here hx rfl (hb hby at_48) rfl rfl (l' := #[.val (.int k), .val (.int (k &&& (3 : Int32))), .val (.ref aS), .unset]) rfl kz) ?_
        show OGo p.tables e below Φ (T13.setTop (mkF m 49 #[.val (.int k), .val (.int (k &&& (3 : Int32))), .val (.ref aS), .unset] []))
        refine OGo.st (fun _ kz => XS.iconst X13.here hx rfl (hb hby at_49) kz) ?_
        show OGo p.tables e below Φ (T13.setTop (mkF m 50 #[.val (.int k), .val (.int (k &&& (3 : Int32))), .val (.ref aS), .unset] [(.int (0 : Int32))]))
        refine OGo.st (fun _ kz => XS.istoreN X13.here hx rfl (hb hby at_50) rfl (l' := #[.val (.int k), .val (.int (k &&& (3 : Int32))), .val (.ref aS), .val (.int (0 : Int32))]) rfl kz) ?_
        show OGo p.tables e below Φ (T13.setTop (mkF m 51 #[.val (.int k), .val (.int (k &&& (3 : Int32))), .val (.ref aS), .val (.int (0 : Int32))] []))
        refine OGo.st (fun _ kz => XS.aloadN X13.here hx rfl (hb hby at_51) rfl rfl kz) ?_
        show OGo p.tables e below Φ (T13.setTop (mkF m 52 #[.val (.int k), .val (.int (k &&& (3 : Int32))), .val (.ref aS), .val (.int (0 : Int32))] [(.ref aS)]))
        obtain ⟨_, T14, L14, X14, hQ14, st14⟩ := own_callVi X13 hx hZ hown (ow3 hw) (ow4 hw) (notFace_of_selects (args := #[]) (mvT hZ (ow6 hw))) (ow6 hw) (ow5 hw) (ow1 hw) (ow7 hw) (by decide) (rm1 l Z a0 hw [] aS aA aB h0 n0 Z0 S_A S_B) e13 (W := 0) (by decide) (by decide) (by decide) (by decide) E_S (pc := 52) (ls := #[.val (.int k), .val (.int (k &&& (3 : Int32))), .val (.ref aS), .val (.int (0 : Int32))]) (stk := [(.ref aS)]) (by rw [hml]; rfl) (argsL := []) (rest := []) (lenOf pd0 rfl) rfl rfl (Nat.le_of_eq rfl) (hb hby at_52)
        obtain ⟨rfl, Nq14, e14⟩ := hQ14
        have N14 := Fr.app N0 Nq14
        refine OGo.st st14 ?_
        show OGo p.tables e below Φ (T14.setTop (mkF m 55 #[.val (.int k), .val (.int (k &&& (3 : Int32))), .val (.ref aS), .val (.int (0 : Int32))] [(.int (own_cnt aS aA aB))]))
        refine OGo.st (fun _ kz => XS.iloadN X14.here hx rfl (hb hby at_55) rfl kz) ?_
        show OGo p.tables e below Φ (T14.setTop (mkF m 56 #[.val (.int k), .val (.int (k &&& (3 : Int32))), .val (.ref aS), .val (.int (0 : Int32))] [(.int (0 : Int32)), (.int (own_cnt aS aA aB))]))
        by_cases hc15 : (own_cnt aS aA aB) = (0 : Int32)
        · refine OGo.st (fun _ kz => XS.icmpNo X14.here hx rfl (hb hby at_56) rfl (XT.ii_ne_f hc15) kz) ?_
          show OGo p.tables e below Φ (T14.setTop (mkF m 59 #[.val (.int k), .val (.int (k &&& (3 : Int32))), .val (.ref aS), .val (.int (0 : Int32))] []))
          refine OGo.st (fun _ kz => XS.iconst X14.here hx rfl (hb hby at_59) kz) ?_
          show OGo p.tables e below Φ (T14.setTop (mkF m 60 #[.val (.int k), .val (.int (k &&& (3 : Int32))), .val (.ref aS), .val (.int (0 : Int32))] [(.int (1 : Int32))]))
          refine OGo.st (fun _ kz => XS.goto X14.here hx rfl (pc0 := 60) (pc' := 64) rfl (hb hby at_60) (by decide) (by decide) kz) ?_
          show OGo p.tables e below Φ (T14.setTop (mkF m 64 #[.val (.int k), .val (.int (k &&& (3 : Int32))), .val (.ref aS), .val (.int (0 : Int32))] [(.int (1 : Int32))]))
          refine OGo.fin X14 hlk (v := (some (.int (1 : Int32)))) (fun h => by rw [hret] at h; cases h) (by decide) (by decide) (fun fs hr => X14.ireturnOut hx hret rfl (by simp) (hb hby at_64) hr) fun U eU hF => hΦ _ _ _ ?_ hF
          rw [eU, e14]
          show Q_rm0 Z k aA aF aB aS h0 n0 _ _ _
          exact ⟨rfl, N14⟩
        · refine OGo.st (fun _ kz => XS.icmpYes X14.here hx rfl (pc0 := 56) (pc' := 63) rfl (hb hby at_56) rfl (XT.ii_ne_t hc15) (by decide) (by decide) kz) ?_
          show OGo p.tables e below Φ (T14.setTop (mkF m 63 #[.val (.int k), .val (.int (k &&& (3 : Int32))), .val (.ref aS), .val (.int (0 : Int32))] []))
          refine OGo.st (fun _ kz => XS.iconst X14.here hx rfl (hb hby at_63) kz) ?_
          show OGo p.tables e below Φ (T14.setTop (mkF m 64 #[.val (.int k), .val (.int (k &&& (3 : Int32))), .val (.ref aS), .val (.int (0 : Int32))] [(.int (0 : Int32))]))
          exact absurd (by simp [own_cnt, nFA, nFB, nSA, nSB]) hc15

set_option maxRecDepth 65536 in
set_option maxHeartbeats 40000000 in
theorem comes_1 {Post : Tables → Env → Array Value → State → Outcome → State → Prop} (hpost : ∀ tb e args s v u, (limb_1_1.after args s (.returned v) u = true ∧ limb_1_2.after args s (.returned v) u = true ∧ True) → FrameEnd s (.returned v) u (Jvm.fieldLocs frame_1_writes args s ++ Jvm.arrayLocs frame_1_arrays args s ++ Jvm.staticLocs frame_1_statics s) 0 0 → Post tb e args s (.returned v) u) :
    ArmFor flags0 classFile x code maxLocals ret World_1 tables_1 room_1 Calls_1 rest_1 Pre_1 Post := by
  intro l hfl _ _ p e ha hc hk s m args below hf hA hF happ hP
  obtain ⟨hcalls, hrest, hpre⟩ := hP
  obtain ⟨-, -, -, hnamed, -, -, -, hat⟩ := (Spec.applies_iff hf).mp happ
  obtain ⟨hg, hn⟩ := and_e (Cond.before_iff.mp (show (Jvm.Cond.and given_1 narrow_1).before args s = true from hpre))
  obtain ⟨g0, r0⟩ := and_e hg
  have k0 := r0
  obtain ⟨w0, rfl⟩ : ∃ w0 : Value, args = #[w0] := by
    have hs : args.size = 1 := by simpa [Cond.value, given_1] using g0
    obtain ⟨L⟩ := args
    match L, hs with
    | [w0], _ => exact ⟨w0, rfl⟩
  have hw := fun d (hd : d ∈ tables_1) => atoms_spec (ws := Jvm.Cond.code x code maxLocals ret :: tables_1) hat d (List.mem_cons_of_mem _ hd)
  have hfit : Fit s := fun {y c} hc i hi => by
    obtain ⟨ha, rfl⟩ := Array.getElem?_eq_some_iff.mp hc
    have q := List.all_eq_true.mp ((Array.all_eq_true_iff_forall_mem.mp hF) _ (Array.getElem_mem ha)) i (List.mem_range.mpr hi)
    simpa [Array.getElem?_eq_getElem hi] using q
  obtain ⟨i0, ei0⟩ := is_v k0
  obtain rfl : w0 = (.int i0) := Option.some.inj ei0
  obtain ⟨m0, hn0⟩ := and_e hn
  obtain ⟨m1, hn1⟩ := and_e hn0
  obtain ⟨m2, hn2⟩ := and_e hn1
  obtain ⟨m3, hn3⟩ := and_e hn2
  obtain ⟨m4, hn4⟩ := and_e hn3
  obtain ⟨m5, hn5⟩ := and_e hn4
  obtain ⟨m6, hn6⟩ := and_e hn5
  have m7 := hn6
  obtain ⟨s_RecordEntryState_APPLIED, v_RecordEntryState_APPLIED⟩ := exa_v m0
  have E_RecordEntryState_APPLIED := Exa.start v_RecordEntryState_APPLIED m0
  have S_RecordEntryState_APPLIED := Sta.start v_RecordEntryState_APPLIED (Or.inr ⟨(ow1 hw), (ow2 hw)⟩)
  obtain ⟨s_RecordEntryState_STARTED, v_RecordEntryState_STARTED⟩ := exa_v m1
  have E_RecordEntryState_STARTED := Exa.start v_RecordEntryState_STARTED m1
  have S_RecordEntryState_STARTED := Sta.start v_RecordEntryState_STARTED (Or.inr ⟨(ow1 hw), (ow10 hw)⟩)
  obtain ⟨s_RecordEntryState_BASELINE, v_RecordEntryState_BASELINE⟩ := exa_v m4
  have E_RecordEntryState_BASELINE := Exa.start v_RecordEntryState_BASELINE m4
  have S_RecordEntryState_BASELINE := Sta.start v_RecordEntryState_BASELINE (Or.inr ⟨(ow1 hw), (ow12 hw)⟩)
  obtain ⟨s_RecordEntryState_FAILED, v_RecordEntryState_FAILED⟩ := exa_v m6
  have E_RecordEntryState_FAILED := Exa.start v_RecordEntryState_FAILED m6
  have S_RecordEntryState_FAILED := Sta.start v_RecordEntryState_FAILED (Or.inr ⟨(ow1 hw), (ow15 hw)⟩)
  have F_RecordEntryState_STARTED_ordinal := own_fldI v_RecordEntryState_STARTED m2
  have F_RecordEntryState_APPLIED_ordinal := own_fldI v_RecordEntryState_APPLIED m3
  have F_RecordEntryState_BASELINE_ordinal := own_fldI v_RecordEntryState_BASELINE m5
  have F_RecordEntryState_FAILED_ordinal := own_fldI v_RecordEntryState_FAILED m7
  obtain ⟨n, o, h1, h2, h3, _, L, rfl, ⟨rfl, N⟩, hq⟩ := rm0 l s _ hw tables_1 i0 s_RecordEntryState_APPLIED s_RecordEntryState_FAILED s_RecordEntryState_BASELINE s_RecordEntryState_STARTED s.heap s.heap.size (Nat.le_refl _) S_RecordEntryState_APPLIED S_RecordEntryState_FAILED S_RecordEntryState_BASELINE S_RecordEntryState_STARTED E_RecordEntryState_APPLIED E_RecordEntryState_FAILED E_RecordEntryState_BASELINE E_RecordEntryState_STARTED (Fld.ne F_RecordEntryState_FAILED_ordinal F_RecordEntryState_APPLIED_ordinal (by decide)) (Fld.ne F_RecordEntryState_FAILED_ordinal F_RecordEntryState_BASELINE_ordinal (by decide)) (Fld.ne F_RecordEntryState_STARTED_ordinal F_RecordEntryState_APPLIED_ordinal (by decide)) (Fld.ne F_RecordEntryState_STARTED_ordinal F_RecordEntryState_BASELINE_ordinal (by decide)) p e ha hc hk s m _ below hf ((Spec.applies_iff_loose hf).mp happ).1 ⟨rfl, State.Warmed39.refl s, rfl⟩ trivial
  refine ⟨n, _, h1, h2, h3, hpost _ _ _ _ _ _ ⟨Cond.after_iff.mpr rfl, Cond.after_iff.mpr (eq_i res_at (Term.int_eval (1)) rfl), trivial⟩ ⟨hq.1, hq.2.1, (hq.2.2.sift fun y hy => Or.inr (N y hy)).mono (by decide) (by decide)⟩⟩
theorem main_1_1 : Claimed_1_1 := comes_1 fun _ _ _ _ _ _ h hF => ⟨h.1, hF⟩
theorem main_1_2 : Claimed_1_2 := comes_1 fun _ _ _ _ _ _ h hF => ⟨h.2.1, hF⟩
end Jvm.Pilot.@@N@@
namespace Jvm.Pilot.@@N@@
open Jvm Jvm.ClassFile Sem Op Lib Jvm.Free Jvm.Stand Jvm.Pilot.@@N@@.Jvm.D
/-! MADE BY PROGRAM (witnessworld.py) out of the Statement's table words and the real class files: 12 classes; the members and pool entries that the words name. The judged class is class 1, her method 1. -/
namespace start1
open Jvm.ClassFile
def u (s : String) : CpInfo := .utf8 (stringToUtf16 s)
/-- a pool by its gaps: so many unusable entries, then the entry; so many at the end -/
def gap : Nat → List CpInfo → List CpInfo
  | 0, r => r
  | n + 1, r => .unusable :: gap n r
def poolList (es : List (Nat × CpInfo)) (last : Nat) : List CpInfo := es.foldr (fun e r => gap e.1 (e.2 :: r)) (gap last [])
def pool (es : List (Nat × CpInfo)) (last : Nat) : Array CpInfo := ⟨poolList es last⟩
def fileOf (pool : Array CpInfo) (this : Nat) (attrs : Array Attribute := #[]) (ms : Array MethodInfo := #[]) (fl : Nat := 33) (sup : Nat := 0) (ifs : Array Nat := #[]) (fds : Array FieldInfo := #[]) : ClassFile where
  minorVersion := 0
  majorVersion := 65
  constantPool := pool
  accessFlags := fl
  thisClass := this
  superClass := sup
  interfaces := ifs
  fields := fds
  methods := ms
  attributes := attrs
def plain (name : String) (sup : Option ClassId) : Class where
  name := name
  kind := .ordinary
  loader := none
  accessFlags := 33
  super := sup
  interfaces := #[]
  cf := none
  fields := #[]
  methods := #[]
  instanceTypes := #[]
  staticTypes := #[]
  resolved := #[]
  callSites := []
  init := .initialized
  statics := none
  mirror := none

def pool0 : Array CpInfo := pool [(5, u "<init>"), (0, u "()V"), (1, .class_ 10), (1, u "java/lang/Object")] 113

def k0m0 : Method := { name := "<init>", desc := "()V", sig := { parameters := [], returnType := none }, accessFlags := 1, code := none }
/-- java/lang/Object -/
def k0 : Class := { plain "java/lang/Object" none with
  accessFlags := 33
  interfaces := #[]
  cf := some (fileOf pool0 8 #[] #[{ accessFlags := 1, nameIndex := 5, descriptorIndex := 6, attributes := #[] }] 33 0 #[] #[])
  fields := #[]
  methods := #[k0m0]
  instanceTypes := #[]
  staticTypes := #[]
  resolved := Array.replicate 124 none
  statics := none }

def pool1 : Array CpInfo := pool [(2, .class_ 4), (1, u "java/lang/Object"), (0, u "<init>"), (0, u "()V"), (0, .fieldref 8 9), (0, .class_ 10), (0, .nameAndType 11 12), (0, u "com/example/orderly_migration/orderlymigration/core/RecordEntry$State"), (0, u "APPLIED"), (0, u "Lcom/example/orderly_migration/orderlymigration/core/RecordEntry$State;"), (0, .fieldref 8 14), (0, .nameAndType 15 12), (0, u "FAILED"), (0, .fieldref 8 17), (0, .nameAndType 18 12), (0, u "BASELINE"), (0, .fieldref 8 20), (0, .nameAndType 21 12), (0, u "STARTED"), (0, .methodref 8 23), (0, .nameAndType 24 25), (0, u "countsAsApplied"), (0, u "()Z"), (0, .class_ 27), (0, u "com/example/orderly_migration/orderlymigration/core/StateCountsAsAppliedPinLaw"), (2, u "law"), (0, u "(I)Z")] 7

def k1m0 : Method := { name := "<init>", desc := "()V", sig := { parameters := [], returnType := none }, accessFlags := 1, code := none }
def k1c1 : Code := { maxStack := 2, maxLocals := 4, code := code, exceptionTable := #[], attributes := #[] }
def k1m1 : Method := { name := "law", desc := "(I)Z", sig := { parameters := [.int], returnType := some .boolean }, accessFlags := 9, code := some k1c1 }
/-- com/example/orderly_migration/orderlymigration/core/StateCountsAsAppliedPinLaw -/
def k1 : Class := { plain "com/example/orderly_migration/orderlymigration/core/StateCountsAsAppliedPinLaw" (some 0) with
  accessFlags := 49
  interfaces := #[]
  cf := some (fileOf pool1 26 #[] #[{ accessFlags := 1, nameIndex := 5, descriptorIndex := 6, attributes := #[] }, { accessFlags := 9, nameIndex := 30, descriptorIndex := 31, attributes := #[] }] 49 2 #[] #[])
  fields := #[]
  methods := #[k1m0, k1m1]
  instanceTypes := #[]
  staticTypes := #[]
  resolved := Array.replicate 39 none
  statics := none }

def pool2 : Array CpInfo := pool [(1, .class_ 2), (0, u "java/lang/constant/Constable"), (0, .class_ 4), (0, u "java/lang/Object")] 6

/-- java/lang/constant/Constable -/
def k2 : Class := { plain "java/lang/constant/Constable" (some 0) with
  accessFlags := 1537
  interfaces := #[]
  cf := some (fileOf pool2 1 #[] #[] 1537 3 #[] #[])
  fields := #[]
  methods := #[]
  instanceTypes := #[]
  staticTypes := #[]
  resolved := Array.replicate 11 none
  statics := none }

def pool3 : Array CpInfo := pool [(1, .class_ 2), (0, u "java/lang/Comparable"), (0, .class_ 4), (0, u "java/lang/Object")] 7

/-- java/lang/Comparable -/
def k3 : Class := { plain "java/lang/Comparable" (some 0) with
  accessFlags := 1537
  interfaces := #[]
  cf := some (fileOf pool3 1 #[] #[] 1537 3 #[] #[])
  fields := #[]
  methods := #[]
  instanceTypes := #[]
  staticTypes := #[]
  resolved := Array.replicate 12 none
  statics := none }

def pool4 : Array CpInfo := pool [(1, .class_ 2), (0, u "java/io/Serializable"), (0, .class_ 4), (0, u "java/lang/Object")] 2

/-- java/io/Serializable -/
def k4 : Class := { plain "java/io/Serializable" (some 0) with
  accessFlags := 1537
  interfaces := #[]
  cf := some (fileOf pool4 1 #[] #[] 1537 3 #[] #[])
  fields := #[]
  methods := #[]
  instanceTypes := #[]
  staticTypes := #[]
  resolved := Array.replicate 7 none
  statics := none }

def pool5 : Array CpInfo := pool [(2, .class_ 4), (1, u "java/lang/Enum"), (0, u "name"), (0, u "Ljava/lang/String;"), (2, u "ordinal"), (0, u "I"), (1, .class_ 14), (1, u "java/lang/Object"), (4, u "hash"), (86, .class_ 108), (1, u "java/lang/Enum$EnumDesc"), (2, .class_ 112), (0, u "java/lang/constant/Constable"), (0, .class_ 114), (0, u "java/lang/Comparable"), (0, .class_ 116), (0, u "java/io/Serializable")] 87

/-- java/lang/Enum -/
def k5 : Class := { plain "java/lang/Enum" (some 0) with
  accessFlags := 1057
  interfaces := #[2, 3, 4]
  cf := some (fileOf pool5 2 #[.nestMembers #[106]] #[] 1057 12 #[111, 113, 115] #[{ accessFlags := 18, nameIndex := 5, descriptorIndex := 6, attributes := #[] }, { accessFlags := 18, nameIndex := 9, descriptorIndex := 10, attributes := #[] }, { accessFlags := 2, nameIndex := 19, descriptorIndex := 10, attributes := #[] }])
  fields := #[{ name := "name", type := (.object "java/lang/String"), accessFlags := 18, slot := 0, constantValue := 0 }, { name := "ordinal", type := .int, accessFlags := 18, slot := 1, constantValue := 0 }, { name := "hash", type := .int, accessFlags := 2, slot := 2, constantValue := 0 }]
  methods := #[]
  instanceTypes := #[(.object "java/lang/String"), .int, .int]
  staticTypes := #[]
  resolved := Array.replicate 204 none
  statics := none }

def pool6 : Array CpInfo := pool [(1, .class_ 2), (0, u "com/example/orderly_migration/orderlymigration/core/RecordEntry$State"), (0, .fieldref 1 4), (0, .nameAndType 5 6), (0, u "APPLIED"), (0, u "Lcom/example/orderly_migration/orderlymigration/core/RecordEntry$State;"), (2, u "FAILED"), (0, .fieldref 1 11), (0, .nameAndType 12 6), (0, u "BASELINE"), (2, u "STARTED"), (2, u "$VALUES"), (0, u "[Lcom/example/orderly_migration/orderlymigration/core/RecordEntry$State;"), (6, .class_ 28), (1, u "java/lang/Enum"), (22, u "countsAsApplied"), (0, u "()Z"), (6, .class_ 60), (0, u "com/example/orderly_migration/orderlymigration/core/RecordEntry")] 2

def k6c0 : Code := { maxStack := 2, maxLocals := 1, code := prog_43_method_4_code, exceptionTable := #[], attributes := #[] }
def k6m0 : Method := { name := "countsAsApplied", desc := "()Z", sig := { parameters := [], returnType := some .boolean }, accessFlags := 1, code := some k6c0 }
/-- com/example/orderly_migration/orderlymigration/core/RecordEntry$State -/
def k6 : Class := { plain "com/example/orderly_migration/orderlymigration/core/RecordEntry$State" (some 5) with
  accessFlags := 16433
  interfaces := #[]
  cf := some (fileOf pool6 1 #[.nestHost 59] #[{ accessFlags := 1, nameIndex := 51, descriptorIndex := 52, attributes := #[] }] 16433 26 #[] #[{ accessFlags := 16409, nameIndex := 5, descriptorIndex := 6, attributes := #[] }, { accessFlags := 16409, nameIndex := 9, descriptorIndex := 6, attributes := #[] }, { accessFlags := 16409, nameIndex := 12, descriptorIndex := 6, attributes := #[] }, { accessFlags := 16409, nameIndex := 15, descriptorIndex := 6, attributes := #[] }, { accessFlags := 4122, nameIndex := 18, descriptorIndex := 19, attributes := #[] }])
  fields := #[{ name := "APPLIED", type := (.object "com/example/orderly_migration/orderlymigration/core/RecordEntry$State"), accessFlags := 16409, slot := 0, constantValue := 0 }, { name := "FAILED", type := (.object "com/example/orderly_migration/orderlymigration/core/RecordEntry$State"), accessFlags := 16409, slot := 1, constantValue := 0 }, { name := "BASELINE", type := (.object "com/example/orderly_migration/orderlymigration/core/RecordEntry$State"), accessFlags := 16409, slot := 2, constantValue := 0 }, { name := "STARTED", type := (.object "com/example/orderly_migration/orderlymigration/core/RecordEntry$State"), accessFlags := 16409, slot := 3, constantValue := 0 }, { name := "$VALUES", type := (.array (.object "com/example/orderly_migration/orderlymigration/core/RecordEntry$State")), accessFlags := 4122, slot := 4, constantValue := 0 }]
  methods := #[k6m0]
  instanceTypes := #[(.object "java/lang/String"), .int, .int]
  staticTypes := #[(.object "com/example/orderly_migration/orderlymigration/core/RecordEntry$State"), (.object "com/example/orderly_migration/orderlymigration/core/RecordEntry$State"), (.object "com/example/orderly_migration/orderlymigration/core/RecordEntry$State"), (.object "com/example/orderly_migration/orderlymigration/core/RecordEntry$State"), (.array (.object "com/example/orderly_migration/orderlymigration/core/RecordEntry$State"))]
  resolved := Array.replicate 63 none
  statics := some 0 }

def pool7 : Array CpInfo := pool [(1, u "java/lang/Cloneable"), (0, .class_ 1), (0, u "java/lang/Object"), (0, .class_ 3)] 3

/-- java/lang/Cloneable -/
def k7 : Class := { plain "java/lang/Cloneable" (some 0) with
  accessFlags := 1537
  interfaces := #[]
  cf := some (fileOf pool7 2 #[] #[] 1537 4 #[] #[])
  fields := #[]
  methods := #[]
  instanceTypes := #[]
  staticTypes := #[]
  resolved := Array.replicate 8 none
  statics := none }

/-- the primitive byte -/
def k8 : Class := { plain "byte" none with kind := .primitive 'B', accessFlags := 0x411 }
/-- [B -/
def k9 : Class := { plain "[B" (some 0) with kind := .array 8 .byte, interfaces := #[7, 4], accessFlags := 1041 }

/-- the primitive int -/
def k10 : Class := { plain "int" none with kind := .primitive 'I', accessFlags := 0x411 }
/-- [I -/
def k11 : Class := { plain "[I" (some 0) with kind := .array 10 .int, interfaces := #[7, 4], accessFlags := 1041 }

def heap : Heap := #[{ cls := 6, slots := #[.ref 1, .ref 2, .ref 3, .ref 4, .null], vm := .statics 6 },
  { cls := 6, slots := #[.null, .int 0, .int 0], vm := .none },
  { cls := 6, slots := #[.null, .int 1, .int 0], vm := .none },
  { cls := 6, slots := #[.null, .int 2, .int 0], vm := .none },
  { cls := 6, slots := #[.null, .int 3, .int 0], vm := .none }]
def classes : Array Class := #[k0, k1, k2, k3, k4, k5, k6, k7, k8, k9, k10, k11]
def interned : List (Array UInt16 × Addr) := []
def slotsUsed : Nat := 17
def theMethod : MethodId := ⟨1, 1⟩
def args0 : Array Value := #[.int 5]
def aboutOver (below : List Frame) : State where
  vm := { classes := classes, interned := interned.toArray }
  heap := heap
  slotsUsed := slotsUsed
  threads := #[{ frames := .invoking theMethod args0 :: below }]
def below0 : List Frame := [.native { method := ⟨0, 0⟩, args := #[] }]
def about1 : State := aboutOver below0
def p0 : Program := .bare "" "" ""
def e0 : Env := launch0.env 0 0 0
theorem w_frames : about1.frames = Frame.invoking theMethod args0 :: below0 := rfl
set_option maxRecDepth 65536 in
theorem w_args : argsFit about1.vm theMethod args0 = true := by decide +kernel
set_option maxRecDepth 65536 in
theorem w_heap : heapFits about1 = true := by decide +kernel
set_option maxRecDepth 65536 in
theorem w_runnable : about1.curStatus? = some .runnable := by decide +kernel
set_option maxRecDepth 65536 in
theorem w_alone : about1.alone = true := by decide +kernel
set_option maxRecDepth 65536 in
theorem w_named : about1.methodNamed? x = some theMethod := by decide +kernel
set_option maxRecDepth 65536 in
theorem w_hears : about1.hears theMethod below0 = true := by decide +kernel
set_option maxRecDepth 65536 in
theorem w_ripe : about1.ripe theMethod args0 below0 = true := by decide +kernel
theorem w_running : about1.status = .running := rfl
set_option maxRecDepth 65536 in
theorem w_room : about1.hasRoom e0.platform room_1 = true :=
  launch0.hasRoom_least _ room_1 (by decide +kernel) (by decide +kernel) (by decide +kernel) (by decide +kernel) (by decide +kernel) (by decide +kernel)
theorem allAtoms_all (ts : List Jvm.Cond) (a : Array Jvm.Value) (st : Jvm.State) : (allAtoms ts).before a st = ts.all (fun c => c.before a st) := by
  induction ts with
  | nil => rfl
  | cons c t ih =>
    show (Jvm.Cond.and c (allAtoms t)).before a st = _
    rw [Jvm.Cond.before_and, ih, List.all_cons]
def words1 : List Jvm.Cond := Jvm.Cond.code x code maxLocals ret :: tables_1
/-- a 'code' word, met by the world's own term for the bytes: nothing is compared byte by byte -/
theorem code_word {y : MethodName} {bytes : ByteArray} {mx : Nat} {rt : Option FieldType} {a : Array Value} {s : State} {m : MethodId} {meth : Method} {c : Code} (h1 : s.methodNamed? y = some m) (h2 : s.vm.method? m = some meth) (h3 : meth.code = some c) (h4 : c.code = bytes)
    (h5 : (c.maxLocals == mx && c.exceptionTable.isEmpty && decide (c.maxStack ≤ mostOperands) && decide (meth.sig.returnType = rt) && !meth.locks && decide (parseMethodDescriptor y.desc = some meth.sig)) = true) : (Jvm.Cond.code y bytes mx rt).before a s = true := by
  simp only [Bool.and_eq_true, beq_iff_eq, Bool.not_eq_true', decide_eq_true_eq] at h5
  obtain ⟨⟨⟨⟨⟨g1, g2⟩, g3⟩, g4⟩, g5⟩, g6⟩ := h5
  simp [Cond.before, Cond.holds, Cond.value, h1, h2, h3, h4, g1, g2, g3, g4, g5, g6]
def isCode : Jvm.Cond → Bool
  | .code _ _ _ _ => true
  | _ => false
theorem all_split {L : List Jvm.Cond} {P : Jvm.Cond → Bool} (h1 : L.all (fun c => isCode c || P c) = true) (h2 : ∀ c ∈ L.filter isCode, P c = true) : L.all P = true := by
  refine List.all_eq_true.mpr fun c hc => ?_
  have h := List.all_eq_true.mp h1 c hc
  rcases Bool.eq_false_or_eq_true (isCode c) with hi | hi
  · exact h2 c (List.mem_filter.mpr ⟨hc, hi⟩)
  · simpa [hi] using h
set_option maxRecDepth 65536 in
theorem w_c0 : (Jvm.Cond.code x code maxLocals ret).before args0 about1 = true := code_word (m := ⟨1, 1⟩) (meth := k1m1) (c := k1c1) (by decide +kernel) rfl rfl rfl (by decide +kernel)
set_option maxRecDepth 65536 in
theorem w_c1 : (Jvm.Cond.code ({ cls := "com/example/orderly_migration/orderlymigration/core/RecordEntry$State", name := "countsAsApplied", desc := "()Z" } : Jvm.MethodName) prog_43_method_4_code (1 : Nat) (Option.some Jvm.ClassFile.FieldType.boolean)).before args0 about1 = true := code_word (m := ⟨6, 0⟩) (meth := k6m0) (c := k6c0) (by decide +kernel) rfl rfl rfl (by decide +kernel)
def codes1 : List Jvm.Cond := [Jvm.Cond.code x code maxLocals ret, Jvm.Cond.code ({ cls := "com/example/orderly_migration/orderlymigration/core/RecordEntry$State", name := "countsAsApplied", desc := "()Z" } : Jvm.MethodName) prog_43_method_4_code (1 : Nat) (Option.some Jvm.ClassFile.FieldType.boolean)]
set_option maxRecDepth 65536 in
theorem codes_eq : words1.filter isCode = codes1 := rfl
theorem w_codes : ∀ c ∈ words1.filter isCode, c.before args0 about1 = true := by
  rw [codes_eq]
  intro c hc
  simp only [codes1, List.mem_cons, List.not_mem_nil, or_false] at hc
  rcases hc with rfl | rfl
  · exact w_c0
  · exact w_c1
set_option maxRecDepth 65536 in
theorem w_t1 : words1.all (fun c => isCode c || c.before args0 about1) = true := by decide +kernel
theorem w_tables : (allAtoms (Jvm.Cond.code x code maxLocals ret :: tables_1)).before args0 about1 = true := by
  rw [allAtoms_all]
  show words1.all (fun c => c.before args0 about1) = true
  refine all_split ?_ w_codes
  rw [w_t1]
set_option maxRecDepth 65536 in
theorem w_case : (Jvm.Cond.and given_1 narrow_1).before args0 about1 = true := by decide +kernel
theorem w_applies : (headSpec (Jvm.Cond.code x code maxLocals ret :: tables_1) room_1).applies x e0.platform about1 = true :=
  (Spec.applies_iff w_frames).mpr ⟨w_running, w_runnable, w_alone, w_named, w_hears, w_ripe, w_room, w_tables⟩
theorem atStart : AtStart classFile x code maxLocals ret World_1 tables_1 room_1 Calls_1 rest_1 Pre_1 launch0 p0 e0 about1 theMethod args0 below0 :=
  ⟨lists_1, trivial, launch0.admits_env _ _ _, launch0.least_env, fairChoices_fair.cas, fairChoices_fair.clock, w_frames, w_args, w_heap, w_applies, trivial, trivial, w_case⟩
end start1
theorem witness_1 : WitnessClaimed_1 := ⟨start1.p0, start1.e0, start1.about1, start1.theMethod, start1.args0, start1.below0, start1.atStart⟩
end Jvm.Pilot.@@N@@
