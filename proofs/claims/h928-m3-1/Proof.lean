import JvmDerived
import JvmDerived.Pilot.@@N@@Statement
import JvmDerived.Pilot.@@N@@Code
set_option linter.unusedVariables false
set_option linter.unusedSimpArgs false
namespace Jvm.Pilot.@@N@@
open Jvm Jvm.ClassFile Sem Op Lib Jvm.Free Jvm.Stand Jvm.LawKit Jvm.RoadKit Bundle Jvm.Pilot.@@N@@.Jvm.D
section Own
variable {p : Program} {l : Launch} {e : Env} {R : Room} {s : State} {m : MethodId} {args : Array Value} {below : List Frame} {meth : Method} {c : Code} {T : State} {locs : List Loc} {cells slots : Nat} {Z : State} {a0 : Array Value} {h : Heap} {Φ : Outcome → State → Prop}
/-- what is left of a walk: from S the invocation ends as Φ says -/
def OGo (tb : Tables) (e : Env) (below : List Frame) (Φ : Outcome → State → Prop) (S : State) : Prop := ∃ s₂ o, Steps tb e below S s₂ ∧ s₂.status = .running ∧ Ended s₂ below o ∧ Φ o s₂
abbrev OG (p : Program) (e : Env) (below : List Frame) (Φ : Outcome → State → Prop) (T : State) (m : MethodId) (pc : Nat) (ls : Array Slot) (st : List Value) : Prop := OGo p.tables e below Φ (T.setTop (mkF m pc ls st))
theorem OGo.st {tb : Tables} {S S' : State} (h : ∀ t, Steps tb e below S' t → Steps tb e below S t) (g : OGo tb e below Φ S') : OGo tb e below Φ S := by
  obtain ⟨s₂, o, h1, r⟩ := g
  exact ⟨s₂, o, h _ h1, r⟩
theorem OGo.fin (X : Stand p l e R s m args below meth c T locs cells slots) (hlk : meth.locks = false) {v : Option Value} (hv : meth.sig.returnType = none → v = none) {g : JFrame} {k n : Nat} (hk : cells ≤ k) (hn : slots ≤ n)
    (st : ∀ fs, (∀ (f : JFrame) (acts : List Action), f.method = m → f.locked = none → f.entered = [] → (doReturn e (T.setTop f) acts v).1 = T.setFrames fs) → Steps p.tables e below (T.setTop g) (T.setFrames fs))
    (hq : ∀ U, U.heap = T.heap → FrameEnd s (.returned v) U locs k n → Φ (.returned v) U) : OGo p.tables e below Φ (T.setTop g) := by
  obtain ⟨fs, hr, hrun, hended, hW, hsame⟩ := X.leave (v := v) hv hlk
  exact ⟨_, _, st fs hr, hrun, hended, hq _ rfl ⟨⟨_, rfl⟩, hW, hsame.mono hk hn⟩⟩
/-- a contract: what every body's theorem says -/
abbrev OCon (l : Launch) (Z : State) (y : MethodName) (bytes : ByteArray) (maxL : Nat) (ret : Option FieldType) (ws : List Jvm.Cond) (rm : Room) (as' : Array Value) (h0 : Heap) (Q : Option Value → Heap → List Loc → Prop) : Prop :=
  MetFree l y (head1 (Jvm.Cond.code y bytes maxL ret :: ws) rm) (fun a U => a = as' ∧ Z.Warmed39 U.vm ∧ U.heap = h0) (fun _ _ _ _ _ => True) (fun _ U o U' => ∃ v L, o = .returned v ∧ Q v U'.heap L ∧ FrameEnd U o U' L rm.cells rm.slots)
theorem OCon.of {y : MethodName} {bytes : ByteArray} {maxL : Nat} {ret : Option FieldType} {ws : List Jvm.Cond} {rm : Room} {as' : Array Value} {h0 : Heap} {Q : Option Value → Heap → List Loc → Prop} (hpl : plainFor y = true)
    (H : ∀ (p : Program) (e : Env) (s : State) (m : MethodId) (below : List Frame) (meth : Method) (c : Code) (s₁ : State) (Φ : Outcome → State → Prop), Stand p l e rm s m as' below meth c s₁ [] 0 0 → p.tables.exec = Jvm.exec → c.code = bytes → c.maxLocals = maxL → s.vm.findClass y.cls = some m.cls → meth.name = y.name → meth.sig.returnType = ret → meth.locks = false → Z.Warmed39 s.vm → s₁.heap = h0 →
      (∀ v L U, Q v U.heap L → FrameEnd s (.returned v) U L rm.cells rm.slots → Φ (.returned v) U) → OGo p.tables e below Φ (s₁.setTop (entryFrame m as' maxL))) :
    OCon l Z y bytes maxL ret ws rm as' h0 Q := by
  refine MetFree.of_bodySF hpl hisR ?_
  intro p e s m args below meth c s₁ Bd hml0 hP hK
  obtain ⟨rfl, hZ, hh⟩ := hP
  have e0 : s₁.heap = h0 := by rw [← hh, Bd.state]; rfl
  exact H p e s m below meth c s₁ _ (Stand.of_body Bd) Bd.exec Bd.bytes hml0 (findClass_of_methodNamed Bd.named) (name_of_methodNamed Bd.named Bd.method).1 Bd.returns Bd.notSynchronized hZ e0 (fun v L U hq hf => ⟨v, L, rfl, hq, hf⟩)
theorem own_callSt (X : Stand p l e R s m args below meth c T locs cells slots) (hx : p.tables.exec = Jvm.exec) (hZ : Z.Warmed39 s.vm) {own : String} {index : Nat} {y : MethodName} {bytes : ByteArray} {maxL : Nat} {ret : Option FieldType} {rm : Room} {as' : Array Value} {Q : Option Value → Heap → List Loc → Prop}
    (hown : s.vm.findClass own = some m.cls) (w1 : (Jvm.Cond.methodLink own index y).before a0 Z = true) (w2 : (Jvm.Cond.static y).before a0 Z = true) (w3 : (Jvm.Cond.initialized y.cls).before a0 Z = true) (w4 : (Jvm.Cond.code y bytes maxL ret).before a0 Z = true) (hy : y.cls ≠ "java/lang/invoke/MethodHandle" ∧ y.cls ≠ "java/lang/invoke/VarHandle")
    (hM : OCon l Z y bytes maxL ret [] rm as' h Q) (eT : T.heap = h) {W : Nat} (hf : rm.frames + 1 ≤ R.frames) (hl : W + (maxL + 11) + rm.locals ≤ R.locals) (hcl : cells + rm.cells ≤ R.cells) (hsl : slots + rm.slots ≤ R.slots)
    {pc : Nat} {ls : Array Slot} {stk : List Value} (hsize : ls.size = c.maxLocals) {argsL rest : List Value} (hlen : ∀ sig, parseMethodDescriptor y.desc = some sig → argsL.length = sig.parameters.length) (has : argsL.toArray = as') (hstack : stk = argsL.reverse ++ rest) (hW : (rest.map fun v => v.category).sum ≤ W)
    (hd : decode c.code pc = .ok (.invokestatic index, 3)) :
    ∃ v T' L, Stand p l e R s m args below meth c T' (locs ++ L) (cells + rm.cells) (slots + rm.slots) ∧ Q v T'.heap L ∧ ∀ target, Steps p.tables e below (T'.setTop (mkF m (pc + 3) ls (v.toList ++ rest))) target → Steps p.tables e below (T.setTop (mkF m pc ls stk)) target := by
  subst has
  obtain ⟨v, vm₁, ⟨T', L', k', n'⟩, -, X', ⟨L, hQ, l1, y1, z1⟩, st⟩ := Jvm.LawKit.callS X hx (y := y) hown (mvT hZ w1) (mvT hZ w2) (mvT hZ w3) (mvT hZ w4) hy (backOf (W := W) hM hZ w4 w3 hf hl) (g := mkF m pc ls stk) rfl hsize (argsL := argsL) (rest := rest) hlen hstack (by simpa using hW) hd (fun _ _ => ⟨rfl, eT, hcl, hsl⟩)
  dsimp only [Pt.U, Pt.locs, Pt.cells, Pt.slots] at X' l1 y1 z1 st hQ
  subst l1 y1 z1
  exact ⟨v, T', L, X', hQ, st⟩
theorem own_callSp (X : Stand p l e R s m args below meth c T locs cells slots) (hx : p.tables.exec = Jvm.exec) (hZ : Z.Warmed39 s.vm) {own : String} {index : Nat} {y : MethodName} {bytes : ByteArray} {maxL : Nat} {rm : Room} {as' : Array Value} {Q : Option Value → Heap → List Loc → Prop}
    (hy1 : y.name = "<init>") (hown : s.vm.findClass own = some m.cls) (w1 : (Jvm.Cond.methodLink own index y).before a0 Z = true) (w2 : (Jvm.Cond.instanceMethod y).before a0 Z = true) (w3 : (Jvm.Cond.initialized y.cls).before a0 Z = true) (w4 : (Jvm.Cond.code y bytes maxL none).before a0 Z = true) (hy : y.cls ≠ "java/lang/invoke/MethodHandle" ∧ y.cls ≠ "java/lang/invoke/VarHandle")
    (hM : OCon l Z y bytes maxL none [] rm as' h Q) (eT : T.heap = h) {W : Nat} (hf : rm.frames + 1 ≤ R.frames) (hl : W + (maxL + 11) + rm.locals ≤ R.locals) (hcl : cells + rm.cells ≤ R.cells) (hsl : slots + rm.slots ≤ R.slots)
    {pc : Nat} {ls : Array Slot} {stk : List Value} (hsize : ls.size = c.maxLocals) {a : Addr} {argsL rest : List Value} (hlen : ∀ sig, parseMethodDescriptor y.desc = some sig → argsL.length = sig.parameters.length) (has : (.ref a :: argsL).toArray = as') (hstack : stk = argsL.reverse ++ .ref a :: rest) (hW : (rest.map fun v => v.category).sum ≤ W)
    (hd : decode c.code pc = .ok (.invokespecial index, 3)) :
    ∃ v T' L, Stand p l e R s m args below meth c T' (locs ++ L) (cells + rm.cells) (slots + rm.slots) ∧ Q v T'.heap L ∧ ∀ target, Steps p.tables e below (T'.setTop (mkF m (pc + 3) ls (v.toList ++ rest))) target → Steps p.tables e below (T.setTop (mkF m pc ls stk)) target := by
  subst has
  obtain ⟨v, vm₁, ⟨T', L', k', n'⟩, -, X', ⟨L, hQ, l1, y1, z1⟩, st⟩ := X.specialBack hx (y := y) hy1 hown (mvT hZ w1) (mvT hZ w2) (mvT hZ w4) hy (backOf (W := W) hM hZ w4 w3 hf hl) (g := mkF m pc ls stk) rfl hsize (Steps.refl _) (a := a) (argsL := argsL) (rest := rest) hlen hstack (by simpa using hW) hd (fun _ _ => ⟨rfl, eT, hcl, hsl⟩)
  dsimp only [Pt.U, Pt.locs, Pt.cells, Pt.slots] at X' l1 y1 z1 st hQ
  subst l1 y1 z1
  exact ⟨v, T', L, X', hQ, fun t k => st.trans k⟩
theorem own_callVi (X : Stand p l e R s m args below meth c T locs cells slots) (hx : p.tables.exec = Jvm.exec) (hZ : Z.Warmed39 s.vm) {own C : String} {index : Nat} {y z : MethodName} {bytes : ByteArray} {maxL : Nat} {ret : Option FieldType} {rm : Room} {as' : Array Value} {Q : Option Value → Heap → List Loc → Prop}
    (hown : s.vm.findClass own = some m.cls) (w1 : (Jvm.Cond.methodLink own index y).before a0 Z = true) (w2 : (Jvm.Cond.declares y).before a0 Z = true) (nf : NotFace s y) (w3 : (Jvm.Cond.selects C y z).before a0 Z = true) (w4 : (Jvm.Cond.instanceMethod z).before a0 Z = true) (w5 : (Jvm.Cond.initialized z.cls).before a0 Z = true) (w6 : (Jvm.Cond.code z bytes maxL ret).before a0 Z = true) (hy : y.cls ≠ "java/lang/invoke/MethodHandle" ∧ y.cls ≠ "java/lang/invoke/VarHandle")
    (hM : OCon l Z z bytes maxL ret [] rm as' h Q) (eT : T.heap = h) {W : Nat} (hf : rm.frames + 1 ≤ R.frames) (hl : W + (maxL + 11) + rm.locals ≤ R.locals) (hcl : cells + rm.cells ≤ R.cells) (hsl : slots + rm.slots ≤ R.slots) {a : Addr} (E : Exa Z h a C)
    {pc : Nat} {ls : Array Slot} {stk : List Value} (hsize : ls.size = c.maxLocals) {argsL rest : List Value} (hlen : ∀ sig, parseMethodDescriptor y.desc = some sig → argsL.length = sig.parameters.length) (has : (.ref a :: argsL).toArray = as') (hstack : stk = argsL.reverse ++ .ref a :: rest) (hW : (rest.map fun v => v.category).sum ≤ W)
    (hd : decode c.code pc = .ok (.invokevirtual index, 3)) :
    ∃ v T' L, Stand p l e R s m args below meth c T' (locs ++ L) (cells + rm.cells) (slots + rm.slots) ∧ Q v T'.heap L ∧ ∀ target, Steps p.tables e below (T'.setTop (mkF m (pc + 3) ls (v.toList ++ rest))) target → Steps p.tables e below (T.setTop (mkF m pc ls stk)) target := by
  subst has
  obtain ⟨cq, kq, qa, qb, qc⟩ := isOf hZ eT E
  obtain ⟨v, vm₁, ⟨T', L', k', n'⟩, -, X', ⟨L, hQ, l1, y1, z1⟩, st⟩ := X.virtualBack hx (y := y) (z := z) hown (mvT hZ w1) (mvT hZ w2) nf (mvT hZ w3) (mvT hZ w4) hy (backOf (W := W) hM hZ w6 w5 hf hl) qa qc (g := mkF m pc ls stk) rfl hsize (Steps.refl _) (argsL := argsL) (rest := rest) hlen hstack (by simpa using hW) hd (fun _ _ => ⟨rfl, eT, hcl, hsl⟩)
  dsimp only [Pt.U, Pt.locs, Pt.cells, Pt.slots] at X' l1 y1 z1 st hQ
  subst l1 y1 z1
  exact ⟨v, T', L, X', hQ, fun t k => st.trans k⟩
theorem own_lremM {g : JFrame} {target : State} (X : Stand p l e R s m args below meth c T locs cells slots) (hx : p.tables.exec = Jvm.exec) (hg : g.method = m) {x y : Int64} {rest : List Value} (hd : decode c.code g.pc = .ok (.lrem, 1)) (hs : g.stack = .long y :: .long x :: rest) (hy : y ≠ 0)
    (hr : Steps p.tables e below (T.setTop { g with pc := g.pc + 1, stack := .long (x % y) :: rest }) target) : Steps p.tables e below (T.setTop g) target :=
  XT.lrem X.here hx hg hd hs hy (by rw [lrem_mod]; exact hr)
theorem own_nz {x : Int32} (q : x = 0 ∨ x = 1) : narrow .boolean (.int x) = .int x := by rcases q with rfl | rfl <;> rfl
theorem own_fz {x : Int32} (q : x = 0 ∨ x = 1) : fits .boolean (.int x) = true := by rcases q with rfl | rfl <;> rfl
theorem own_irr (x : Int32) : ¬ x < x := fun q => absurd (Int32.lt_iff_toInt_lt.mp q) (Int.lt_irrefl _)
theorem own_irrL (x : Int64) : ¬ x < x := fun q => absurd (Int64.lt_iff_toInt_lt.mp q) (Int.lt_irrefl _)
/-- a small int is one of the first n -/
theorem own_small {n : Nat} (hn : n < 2 ^ 31) (x : Int32) (h0 : ¬ x < 0) (h1 : x.toInt < n) : ∃ k : Fin n, x = Int32.ofInt k.val := by
  have h2 : 0 ≤ x.toInt := by
    rcases Int.lt_or_le x.toInt 0 with q | q
    · exact absurd (Int32.lt_iff_toInt_lt.mpr q) h0
    · exact q
  refine ⟨⟨x.toInt.toNat, by omega⟩, ?_⟩
  rw [Int.toNat_of_nonneg h2, Int32.ofInt_toInt]
end Own
section OwnSta
variable {args : Array Value} {Z : State} {a : Addr} {t : Jvm.Term}
theorem own_eqV {u : Jvm.Term} {v : Value} (hu : u.eval args Z none [] Z = some v) (hv : (match v with | .retAddr _ => false | _ => true) = true) (q : (Jvm.Cond.eq t u).value args Z none Z [] = some true) : t.eval args Z none [] Z = some v := by
  obtain ⟨x, y, ex, ey, k1, k2⟩ := cmp_v (Or.inl q)
  cases hu.symm.trans ey
  rw [ex]
  cases x <;> cases v <;> simp_all [Jvm.Cond.value, Kin, Value.isRef]
theorem own_fldI {C n d : String} {k : Int32} (ev : t.eval args Z none [] Z = some (.ref a)) (q : (Jvm.Cond.eq (Jvm.Term.field t C n d) (Jvm.Term.int k)).value args Z none Z [] = some true) : Fld Z Z.heap a C n d (.int k) :=
  Fld.start ((fld_at ev).symm.trans (own_eqV (Term.int_eval k) rfl q))
theorem own_lenI {k : Int32} {cl : Cell} {ty : FieldType} (ev : t.eval args Z none [] Z = some (.ref a)) (A : Arr Z Z.heap a cl ty) (q : (Jvm.Cond.eq (Jvm.Term.length t) (Jvm.Term.int k)).value args Z none Z [] = some true) : cl.slots.size < 2 ^ 31 ∧ cl.slots.size.toInt32 = k := by
  have h := own_eqV (Term.int_eval k) rfl q
  obtain ⟨b, cell, ht, harr, hl⟩ := Term.length_spec h
  cases ev.symm.trans ht
  have ha : Z.arrayAt? a = some cl := Arr.fin (Vm.Alike.refl _) A
  cases ha.symm.trans harr
  by_cases hs : cl.slots.size < 2 ^ 31
  · exact ⟨hs, (Value.int.inj (Option.some.inj ((len_f ev ha hs).symm.trans h)))⟩
  · exfalso
    rw [Jvm.Term.eval, ev] at h
    simp [ha] at h
    omega
theorem own_elem {j : Int32} {n : Nat} {u : Jvm.Term} {v : Value} {cl : Cell} {ty : FieldType} (ev : t.eval args Z none [] Z = some (.ref a)) (A : Arr Z Z.heap a cl ty) (hu : u.eval args Z none [] Z = some v) (hv : (match v with | .retAddr _ => false | _ => true) = true) (hj : j.toNatClampNeg = n) (q : (Jvm.Cond.eq (Jvm.Term.elem t (Jvm.Term.int j)) u).value args Z none Z [] = some true) : cl.slots[n]? = some v :=
  hj ▸ (elem_in (own_eqV hu hv q) ev (Term.int_eval j) A.1).2
end OwnSta
theorem ow0 {Z : State} {a0 : Array Value} (hw : ∀ d ∈ tables_1, d.before a0 Z = true) : (Jvm.Cond.arrayClass Jvm.ClassFile.FieldType.byte).before a0 Z = true := hw _ (List.mem_of_getElem? (i := 0) rfl)
theorem ow1 {Z : State} {a0 : Array Value} (hw : ∀ d ∈ tables_1, d.before a0 Z = true) : (Jvm.Cond.methodLink "com/example/crossweave/crossweave/PostgreSqlTextOfBytesPinLaw" (18 : Nat) ({ cls := "com/example/crossweave/crossweave/PostgreSqlText", name := "ofBytes", desc := "([B)Ljava/lang/String;" } : Jvm.MethodName)).before a0 Z = true := hw _ (List.mem_of_getElem? (i := 1) rfl)
theorem ow2 {Z : State} {a0 : Array Value} (hw : ∀ d ∈ tables_1, d.before a0 Z = true) : (Jvm.Cond.static ({ cls := "com/example/crossweave/crossweave/PostgreSqlText", name := "ofBytes", desc := "([B)Ljava/lang/String;" } : Jvm.MethodName)).before a0 Z = true := hw _ (List.mem_of_getElem? (i := 2) rfl)
theorem ow3 {Z : State} {a0 : Array Value} (hw : ∀ d ∈ tables_1, d.before a0 Z = true) : (Jvm.Cond.initialized "com/example/crossweave/crossweave/PostgreSqlText").before a0 Z = true := hw _ (List.mem_of_getElem? (i := 3) rfl)
theorem ow4 {Z : State} {a0 : Array Value} (hw : ∀ d ∈ tables_1, d.before a0 Z = true) : (Jvm.Cond.code ({ cls := "com/example/crossweave/crossweave/PostgreSqlText", name := "ofBytes", desc := "([B)Ljava/lang/String;" } : Jvm.MethodName) prog_4_method_7_code (3 : Nat) (Option.some (Jvm.ClassFile.FieldType.object "java/lang/String"))).before a0 Z = true := hw _ (List.mem_of_getElem? (i := 4) rfl)
theorem ow5 {Z : State} {a0 : Array Value} (hw : ∀ d ∈ tables_1, d.before a0 Z = true) : (Jvm.Cond.arrayClass Jvm.ClassFile.FieldType.char).before a0 Z = true := hw _ (List.mem_of_getElem? (i := 5) rfl)
theorem ow6 {Z : State} {a0 : Array Value} (hw : ∀ d ∈ tables_1, d.before a0 Z = true) : (Jvm.Cond.classLink "com/example/crossweave/crossweave/PostgreSqlText" (161 : Nat) "java/lang/String").before a0 Z = true := hw _ (List.mem_of_getElem? (i := 6) rfl)
theorem ow7 {Z : State} {a0 : Array Value} (hw : ∀ d ∈ tables_1, d.before a0 Z = true) : (Jvm.Cond.instantiable "java/lang/String" (4 : Nat)).before a0 Z = true := hw _ (List.mem_of_getElem? (i := 7) rfl)
theorem ow8 {Z : State} {a0 : Array Value} (hw : ∀ d ∈ tables_1, d.before a0 Z = true) : (Jvm.Cond.initialized "java/lang/String").before a0 Z = true := hw _ (List.mem_of_getElem? (i := 8) rfl)
theorem ow9 {Z : State} {a0 : Array Value} (hw : ∀ d ∈ tables_1, d.before a0 Z = true) : (Jvm.Cond.methodLink "com/example/crossweave/crossweave/PostgreSqlText" (163 : Nat) ({ cls := "java/lang/String", name := "<init>", desc := "([C)V" } : Jvm.MethodName)).before a0 Z = true := hw _ (List.mem_of_getElem? (i := 9) rfl)
theorem ow10 {Z : State} {a0 : Array Value} (hw : ∀ d ∈ tables_1, d.before a0 Z = true) : (Jvm.Cond.instanceMethod ({ cls := "java/lang/String", name := "<init>", desc := "([C)V" } : Jvm.MethodName)).before a0 Z = true := hw _ (List.mem_of_getElem? (i := 10) rfl)
theorem ow11 {Z : State} {a0 : Array Value} (hw : ∀ d ∈ tables_1, d.before a0 Z = true) : (Jvm.Cond.code ({ cls := "java/lang/String", name := "<init>", desc := "([C)V" } : Jvm.MethodName) jdk_42_method_3_code (2 : Nat) (Option.none : Option Jvm.ClassFile.FieldType)).before a0 Z = true := hw _ (List.mem_of_getElem? (i := 11) rfl)
theorem ow12 {Z : State} {a0 : Array Value} (hw : ∀ d ∈ tables_1, d.before a0 Z = true) : (Jvm.Cond.methodLink "java/lang/String" (27 : Nat) ({ cls := "java/lang/String", name := "<init>", desc := "([CIILjava/lang/Void;)V" } : Jvm.MethodName)).before a0 Z = true := hw _ (List.mem_of_getElem? (i := 12) rfl)
theorem ow13 {Z : State} {a0 : Array Value} (hw : ∀ d ∈ tables_1, d.before a0 Z = true) : (Jvm.Cond.instanceMethod ({ cls := "java/lang/String", name := "<init>", desc := "([CIILjava/lang/Void;)V" } : Jvm.MethodName)).before a0 Z = true := hw _ (List.mem_of_getElem? (i := 13) rfl)
theorem ow15 {Z : State} {a0 : Array Value} (hw : ∀ d ∈ tables_1, d.before a0 Z = true) : (Jvm.Cond.code ({ cls := "java/lang/String", name := "<init>", desc := "([CIILjava/lang/Void;)V" } : Jvm.MethodName) jdk_42_method_149_code (6 : Nat) (Option.none : Option Jvm.ClassFile.FieldType)).before a0 Z = true := hw _ (List.mem_of_getElem? (i := 15) rfl)
theorem ow16 {Z : State} {a0 : Array Value} (hw : ∀ d ∈ tables_1, d.before a0 Z = true) : (Jvm.Cond.methodLink "java/lang/String" (1 : Nat) ({ cls := "java/lang/Object", name := "<init>", desc := "()V" } : Jvm.MethodName)).before a0 Z = true := hw _ (List.mem_of_getElem? (i := 16) rfl)
theorem ow17 {Z : State} {a0 : Array Value} (hw : ∀ d ∈ tables_1, d.before a0 Z = true) : (Jvm.Cond.instanceMethod ({ cls := "java/lang/Object", name := "<init>", desc := "()V" } : Jvm.MethodName)).before a0 Z = true := hw _ (List.mem_of_getElem? (i := 17) rfl)
theorem ow18 {Z : State} {a0 : Array Value} (hw : ∀ d ∈ tables_1, d.before a0 Z = true) : (Jvm.Cond.code ({ cls := "java/lang/Object", name := "<init>", desc := "()V" } : Jvm.MethodName) object_method_1_code (1 : Nat) (Option.none : Option Jvm.ClassFile.FieldType)).before a0 Z = true := hw _ (List.mem_of_getElem? (i := 18) rfl)
theorem ow19 {Z : State} {a0 : Array Value} (hw : ∀ d ∈ tables_1, d.before a0 Z = true) : (Jvm.Cond.fieldLink "java/lang/String" (38 : Nat) "java/lang/String" "COMPACT_STRINGS" "Z").before a0 Z = true := hw _ (List.mem_of_getElem? (i := 19) rfl)
theorem ow20 {Z : State} {a0 : Array Value} (hw : ∀ d ∈ tables_1, d.before a0 Z = true) : (Jvm.Cond.methodLink "java/lang/String" (177 : Nat) ({ cls := "java/lang/StringUTF16", name := "compress", desc := "([CII)[B" } : Jvm.MethodName)).before a0 Z = true := hw _ (List.mem_of_getElem? (i := 20) rfl)
theorem ow21 {Z : State} {a0 : Array Value} (hw : ∀ d ∈ tables_1, d.before a0 Z = true) : (Jvm.Cond.static ({ cls := "java/lang/StringUTF16", name := "compress", desc := "([CII)[B" } : Jvm.MethodName)).before a0 Z = true := hw _ (List.mem_of_getElem? (i := 21) rfl)
theorem ow22 {Z : State} {a0 : Array Value} (hw : ∀ d ∈ tables_1, d.before a0 Z = true) : (Jvm.Cond.initialized "java/lang/StringUTF16").before a0 Z = true := hw _ (List.mem_of_getElem? (i := 22) rfl)
theorem ow23 {Z : State} {a0 : Array Value} (hw : ∀ d ∈ tables_1, d.before a0 Z = true) : (Jvm.Cond.code ({ cls := "java/lang/StringUTF16", name := "compress", desc := "([CII)[B" } : Jvm.MethodName) jdk_52_method_16_code (6 : Nat) (Option.some (Jvm.ClassFile.FieldType.array Jvm.ClassFile.FieldType.byte))).before a0 Z = true := hw _ (List.mem_of_getElem? (i := 23) rfl)
theorem ow24 {Z : State} {a0 : Array Value} (hw : ∀ d ∈ tables_1, d.before a0 Z = true) : (Jvm.Cond.methodLink "java/lang/StringUTF16" (115 : Nat) ({ cls := "java/lang/StringUTF16", name := "compress", desc := "([CI[BII)I" } : Jvm.MethodName)).before a0 Z = true := hw _ (List.mem_of_getElem? (i := 24) rfl)
theorem ow25 {Z : State} {a0 : Array Value} (hw : ∀ d ∈ tables_1, d.before a0 Z = true) : (Jvm.Cond.static ({ cls := "java/lang/StringUTF16", name := "compress", desc := "([CI[BII)I" } : Jvm.MethodName)).before a0 Z = true := hw _ (List.mem_of_getElem? (i := 25) rfl)
theorem ow26 {Z : State} {a0 : Array Value} (hw : ∀ d ∈ tables_1, d.before a0 Z = true) : (Jvm.Cond.code ({ cls := "java/lang/StringUTF16", name := "compress", desc := "([CI[BII)I" } : Jvm.MethodName) jdk_52_method_21_code (7 : Nat) (Option.some Jvm.ClassFile.FieldType.int)).before a0 Z = true := hw _ (List.mem_of_getElem? (i := 26) rfl)
theorem ow27 {Z : State} {a0 : Array Value} (hw : ∀ d ∈ tables_1, d.before a0 Z = true) : (Jvm.Cond.methodLink "java/lang/String" (47 : Nat) ({ cls := "java/lang/StringUTF16", name := "coderFromArrayLen", desc := "([BI)B" } : Jvm.MethodName)).before a0 Z = true := hw _ (List.mem_of_getElem? (i := 27) rfl)
theorem ow28 {Z : State} {a0 : Array Value} (hw : ∀ d ∈ tables_1, d.before a0 Z = true) : (Jvm.Cond.static ({ cls := "java/lang/StringUTF16", name := "coderFromArrayLen", desc := "([BI)B" } : Jvm.MethodName)).before a0 Z = true := hw _ (List.mem_of_getElem? (i := 28) rfl)
theorem ow29 {Z : State} {a0 : Array Value} (hw : ∀ d ∈ tables_1, d.before a0 Z = true) : (Jvm.Cond.code ({ cls := "java/lang/StringUTF16", name := "coderFromArrayLen", desc := "([BI)B" } : Jvm.MethodName) jdk_52_method_15_code (2 : Nat) (Option.some Jvm.ClassFile.FieldType.byte)).before a0 Z = true := hw _ (List.mem_of_getElem? (i := 29) rfl)
theorem ow30 {Z : State} {a0 : Array Value} (hw : ∀ d ∈ tables_1, d.before a0 Z = true) : (Jvm.Cond.fieldLink "java/lang/String" (15 : Nat) "java/lang/String" "coder" "B").before a0 Z = true := hw _ (List.mem_of_getElem? (i := 30) rfl)
theorem ow31 {Z : State} {a0 : Array Value} (hw : ∀ d ∈ tables_1, d.before a0 Z = true) : (Jvm.Cond.laysFinal "java/lang/String" "java/lang/String" "coder" "B").before a0 Z = true := hw _ (List.mem_of_getElem? (i := 31) rfl)
theorem ow32 {Z : State} {a0 : Array Value} (hw : ∀ d ∈ tables_1, d.before a0 Z = true) : (Jvm.Cond.fieldLink "java/lang/String" (9 : Nat) "java/lang/String" "value" "[B").before a0 Z = true := hw _ (List.mem_of_getElem? (i := 32) rfl)
theorem ow33 {Z : State} {a0 : Array Value} (hw : ∀ d ∈ tables_1, d.before a0 Z = true) : (Jvm.Cond.laysFinal "java/lang/String" "java/lang/String" "value" "[B").before a0 Z = true := hw _ (List.mem_of_getElem? (i := 33) rfl)
theorem ow34 {Z : State} {a0 : Array Value} (hw : ∀ d ∈ tables_1, d.before a0 Z = true) : (Jvm.Cond.methodLink "com/example/crossweave/crossweave/PostgreSqlTextOfBytesPinLaw" (24 : Nat) ({ cls := "java/lang/String", name := "length", desc := "()I" } : Jvm.MethodName)).before a0 Z = true := hw _ (List.mem_of_getElem? (i := 34) rfl)
theorem ow35 {Z : State} {a0 : Array Value} (hw : ∀ d ∈ tables_1, d.before a0 Z = true) : (Jvm.Cond.declares ({ cls := "java/lang/String", name := "length", desc := "()I" } : Jvm.MethodName)).before a0 Z = true := hw _ (List.mem_of_getElem? (i := 35) rfl)
theorem ow36 {Z : State} {a0 : Array Value} (hw : ∀ d ∈ tables_1, d.before a0 Z = true) : (Jvm.Cond.instanceMethod ({ cls := "java/lang/String", name := "length", desc := "()I" } : Jvm.MethodName)).before a0 Z = true := hw _ (List.mem_of_getElem? (i := 36) rfl)
theorem ow37 {Z : State} {a0 : Array Value} (hw : ∀ d ∈ tables_1, d.before a0 Z = true) : (Jvm.Cond.selects "java/lang/String" ({ cls := "java/lang/String", name := "length", desc := "()I" } : Jvm.MethodName) ({ cls := "java/lang/String", name := "length", desc := "()I" } : Jvm.MethodName)).before a0 Z = true := hw _ (List.mem_of_getElem? (i := 37) rfl)
theorem ow38 {Z : State} {a0 : Array Value} (hw : ∀ d ∈ tables_1, d.before a0 Z = true) : (Jvm.Cond.code ({ cls := "java/lang/String", name := "length", desc := "()I" } : Jvm.MethodName) jdk_42_method_54_code (1 : Nat) (Option.some Jvm.ClassFile.FieldType.int)).before a0 Z = true := hw _ (List.mem_of_getElem? (i := 38) rfl)
theorem ow39 {Z : State} {a0 : Array Value} (hw : ∀ d ∈ tables_1, d.before a0 Z = true) : (Jvm.Cond.methodLink "java/lang/String" (335 : Nat) ({ cls := "java/lang/String", name := "coder", desc := "()B" } : Jvm.MethodName)).before a0 Z = true := hw _ (List.mem_of_getElem? (i := 39) rfl)
theorem ow40 {Z : State} {a0 : Array Value} (hw : ∀ d ∈ tables_1, d.before a0 Z = true) : (Jvm.Cond.declares ({ cls := "java/lang/String", name := "coder", desc := "()B" } : Jvm.MethodName)).before a0 Z = true := hw _ (List.mem_of_getElem? (i := 40) rfl)
theorem ow41 {Z : State} {a0 : Array Value} (hw : ∀ d ∈ tables_1, d.before a0 Z = true) : (Jvm.Cond.instanceMethod ({ cls := "java/lang/String", name := "coder", desc := "()B" } : Jvm.MethodName)).before a0 Z = true := hw _ (List.mem_of_getElem? (i := 41) rfl)
theorem ow42 {Z : State} {a0 : Array Value} (hw : ∀ d ∈ tables_1, d.before a0 Z = true) : (Jvm.Cond.selects "java/lang/String" ({ cls := "java/lang/String", name := "coder", desc := "()B" } : Jvm.MethodName) ({ cls := "java/lang/String", name := "coder", desc := "()B" } : Jvm.MethodName)).before a0 Z = true := hw _ (List.mem_of_getElem? (i := 42) rfl)
theorem ow43 {Z : State} {a0 : Array Value} (hw : ∀ d ∈ tables_1, d.before a0 Z = true) : (Jvm.Cond.code ({ cls := "java/lang/String", name := "coder", desc := "()B" } : Jvm.MethodName) jdk_42_method_152_code (1 : Nat) (Option.some Jvm.ClassFile.FieldType.byte)).before a0 Z = true := hw _ (List.mem_of_getElem? (i := 43) rfl)
theorem ow44 {Z : State} {a0 : Array Value} (hw : ∀ d ∈ tables_1, d.before a0 Z = true) : (Jvm.Cond.methodLink "com/example/crossweave/crossweave/PostgreSqlTextOfBytesPinLaw" (7 : Nat) ({ cls := "java/lang/String", name := "charAt", desc := "(I)C" } : Jvm.MethodName)).before a0 Z = true := hw _ (List.mem_of_getElem? (i := 44) rfl)
theorem ow45 {Z : State} {a0 : Array Value} (hw : ∀ d ∈ tables_1, d.before a0 Z = true) : (Jvm.Cond.declares ({ cls := "java/lang/String", name := "charAt", desc := "(I)C" } : Jvm.MethodName)).before a0 Z = true := hw _ (List.mem_of_getElem? (i := 45) rfl)
theorem ow46 {Z : State} {a0 : Array Value} (hw : ∀ d ∈ tables_1, d.before a0 Z = true) : (Jvm.Cond.instanceMethod ({ cls := "java/lang/String", name := "charAt", desc := "(I)C" } : Jvm.MethodName)).before a0 Z = true := hw _ (List.mem_of_getElem? (i := 46) rfl)
theorem ow47 {Z : State} {a0 : Array Value} (hw : ∀ d ∈ tables_1, d.before a0 Z = true) : (Jvm.Cond.selects "java/lang/String" ({ cls := "java/lang/String", name := "charAt", desc := "(I)C" } : Jvm.MethodName) ({ cls := "java/lang/String", name := "charAt", desc := "(I)C" } : Jvm.MethodName)).before a0 Z = true := hw _ (List.mem_of_getElem? (i := 47) rfl)
theorem ow48 {Z : State} {a0 : Array Value} (hw : ∀ d ∈ tables_1, d.before a0 Z = true) : (Jvm.Cond.code ({ cls := "java/lang/String", name := "charAt", desc := "(I)C" } : Jvm.MethodName) jdk_42_method_56_code (2 : Nat) (Option.some Jvm.ClassFile.FieldType.char)).before a0 Z = true := hw _ (List.mem_of_getElem? (i := 48) rfl)
theorem ow49 {Z : State} {a0 : Array Value} (hw : ∀ d ∈ tables_1, d.before a0 Z = true) : (Jvm.Cond.methodLink "java/lang/String" (492 : Nat) ({ cls := "java/lang/String", name := "isLatin1", desc := "()Z" } : Jvm.MethodName)).before a0 Z = true := hw _ (List.mem_of_getElem? (i := 49) rfl)
theorem ow50 {Z : State} {a0 : Array Value} (hw : ∀ d ∈ tables_1, d.before a0 Z = true) : (Jvm.Cond.declares ({ cls := "java/lang/String", name := "isLatin1", desc := "()Z" } : Jvm.MethodName)).before a0 Z = true := hw _ (List.mem_of_getElem? (i := 50) rfl)
theorem ow51 {Z : State} {a0 : Array Value} (hw : ∀ d ∈ tables_1, d.before a0 Z = true) : (Jvm.Cond.instanceMethod ({ cls := "java/lang/String", name := "isLatin1", desc := "()Z" } : Jvm.MethodName)).before a0 Z = true := hw _ (List.mem_of_getElem? (i := 51) rfl)
theorem ow52 {Z : State} {a0 : Array Value} (hw : ∀ d ∈ tables_1, d.before a0 Z = true) : (Jvm.Cond.selects "java/lang/String" ({ cls := "java/lang/String", name := "isLatin1", desc := "()Z" } : Jvm.MethodName) ({ cls := "java/lang/String", name := "isLatin1", desc := "()Z" } : Jvm.MethodName)).before a0 Z = true := hw _ (List.mem_of_getElem? (i := 52) rfl)
theorem ow53 {Z : State} {a0 : Array Value} (hw : ∀ d ∈ tables_1, d.before a0 Z = true) : (Jvm.Cond.code ({ cls := "java/lang/String", name := "isLatin1", desc := "()Z" } : Jvm.MethodName) jdk_42_method_154_code (1 : Nat) (Option.some Jvm.ClassFile.FieldType.boolean)).before a0 Z = true := hw _ (List.mem_of_getElem? (i := 53) rfl)
theorem ow54 {Z : State} {a0 : Array Value} (hw : ∀ d ∈ tables_1, d.before a0 Z = true) : (Jvm.Cond.methodLink "java/lang/String" (495 : Nat) ({ cls := "java/lang/StringLatin1", name := "charAt", desc := "([BI)C" } : Jvm.MethodName)).before a0 Z = true := hw _ (List.mem_of_getElem? (i := 54) rfl)
theorem ow55 {Z : State} {a0 : Array Value} (hw : ∀ d ∈ tables_1, d.before a0 Z = true) : (Jvm.Cond.static ({ cls := "java/lang/StringLatin1", name := "charAt", desc := "([BI)C" } : Jvm.MethodName)).before a0 Z = true := hw _ (List.mem_of_getElem? (i := 55) rfl)
theorem ow56 {Z : State} {a0 : Array Value} (hw : ∀ d ∈ tables_1, d.before a0 Z = true) : (Jvm.Cond.initialized "java/lang/StringLatin1").before a0 Z = true := hw _ (List.mem_of_getElem? (i := 56) rfl)
theorem ow57 {Z : State} {a0 : Array Value} (hw : ∀ d ∈ tables_1, d.before a0 Z = true) : (Jvm.Cond.code ({ cls := "java/lang/StringLatin1", name := "charAt", desc := "([BI)C" } : Jvm.MethodName) jdk_43_method_2_code (2 : Nat) (Option.some Jvm.ClassFile.FieldType.char)).before a0 Z = true := hw _ (List.mem_of_getElem? (i := 57) rfl)
theorem ow58 {Z : State} {a0 : Array Value} (hw : ∀ d ∈ tables_1, d.before a0 Z = true) : (Jvm.Cond.methodLink "java/lang/StringLatin1" (9 : Nat) ({ cls := "java/lang/String", name := "checkIndex", desc := "(II)V" } : Jvm.MethodName)).before a0 Z = true := hw _ (List.mem_of_getElem? (i := 58) rfl)
theorem ow59 {Z : State} {a0 : Array Value} (hw : ∀ d ∈ tables_1, d.before a0 Z = true) : (Jvm.Cond.static ({ cls := "java/lang/String", name := "checkIndex", desc := "(II)V" } : Jvm.MethodName)).before a0 Z = true := hw _ (List.mem_of_getElem? (i := 59) rfl)
theorem ow60 {Z : State} {a0 : Array Value} (hw : ∀ d ∈ tables_1, d.before a0 Z = true) : (Jvm.Cond.code ({ cls := "java/lang/String", name := "checkIndex", desc := "(II)V" } : Jvm.MethodName) jdk_42_method_155_code (2 : Nat) (Option.none : Option Jvm.ClassFile.FieldType)).before a0 Z = true := hw _ (List.mem_of_getElem? (i := 60) rfl)
theorem ow61 {Z : State} {a0 : Array Value} (hw : ∀ d ∈ tables_1, d.before a0 Z = true) : (Jvm.Cond.fieldLink "java/lang/String" (1053 : Nat) "jdk/internal/util/Preconditions" "SIOOBE_FORMATTER" "Ljava/util/function/BiFunction;").before a0 Z = true := hw _ (List.mem_of_getElem? (i := 61) rfl)
theorem ow62 {Z : State} {a0 : Array Value} (hw : ∀ d ∈ tables_1, d.before a0 Z = true) : (Jvm.Cond.initialized "jdk/internal/util/Preconditions").before a0 Z = true := hw _ (List.mem_of_getElem? (i := 62) rfl)
theorem ow63 {Z : State} {a0 : Array Value} (hw : ∀ d ∈ tables_1, d.before a0 Z = true) : (Jvm.Cond.methodLink "java/lang/String" (1059 : Nat) ({ cls := "jdk/internal/util/Preconditions", name := "checkIndex", desc := "(IILjava/util/function/BiFunction;)I" } : Jvm.MethodName)).before a0 Z = true := hw _ (List.mem_of_getElem? (i := 63) rfl)
theorem ow64 {Z : State} {a0 : Array Value} (hw : ∀ d ∈ tables_1, d.before a0 Z = true) : (Jvm.Cond.static ({ cls := "jdk/internal/util/Preconditions", name := "checkIndex", desc := "(IILjava/util/function/BiFunction;)I" } : Jvm.MethodName)).before a0 Z = true := hw _ (List.mem_of_getElem? (i := 64) rfl)
theorem ow65 {Z : State} {a0 : Array Value} (hw : ∀ d ∈ tables_1, d.before a0 Z = true) : (Jvm.Cond.code ({ cls := "jdk/internal/util/Preconditions", name := "checkIndex", desc := "(IILjava/util/function/BiFunction;)I" } : Jvm.MethodName) jdk_41_method_11_code (3 : Nat) (Option.some Jvm.ClassFile.FieldType.int)).before a0 Z = true := hw _ (List.mem_of_getElem? (i := 65) rfl)
theorem ow66 {Z : State} {a0 : Array Value} (hw : ∀ d ∈ tables_1, d.before a0 Z = true) : (Jvm.Cond.fieldLink "com/example/crossweave/crossweave/PostgreSqlText" (157 : Nat) "com/example/crossweave/crossweave/PostgreSqlText" "HEX_DIGITS" "[C").before a0 Z = true := hw _ (List.mem_of_getElem? (i := 66) rfl)
theorem ow67 {Z : State} {a0 : Array Value} (hw : ∀ d ∈ tables_1, d.before a0 Z = true) : (Jvm.Cond.laysStatic "com/example/crossweave/crossweave/PostgreSqlText" "HEX_DIGITS" "[C").before a0 Z = true := hw _ (List.mem_of_getElem? (i := 67) rfl)
theorem ow68 {Z : State} {a0 : Array Value} (hw : ∀ d ∈ tables_1, d.before a0 Z = true) : (Jvm.Cond.methodLink "com/example/crossweave/crossweave/PostgreSqlTextOfBytesPinLaw" (28 : Nat) ({ cls := "com/example/crossweave/crossweave/PostgreSqlTextOfBytesPinLaw", name := "pairOk", desc := "(Ljava/lang/String;IB)Z" } : Jvm.MethodName)).before a0 Z = true := hw _ (List.mem_of_getElem? (i := 68) rfl)
theorem ow69 {Z : State} {a0 : Array Value} (hw : ∀ d ∈ tables_1, d.before a0 Z = true) : (Jvm.Cond.static ({ cls := "com/example/crossweave/crossweave/PostgreSqlTextOfBytesPinLaw", name := "pairOk", desc := "(Ljava/lang/String;IB)Z" } : Jvm.MethodName)).before a0 Z = true := hw _ (List.mem_of_getElem? (i := 69) rfl)
theorem ow70 {Z : State} {a0 : Array Value} (hw : ∀ d ∈ tables_1, d.before a0 Z = true) : (Jvm.Cond.initialized "com/example/crossweave/crossweave/PostgreSqlTextOfBytesPinLaw").before a0 Z = true := hw _ (List.mem_of_getElem? (i := 70) rfl)
theorem ow71 {Z : State} {a0 : Array Value} (hw : ∀ d ∈ tables_1, d.before a0 Z = true) : (Jvm.Cond.code ({ cls := "com/example/crossweave/crossweave/PostgreSqlTextOfBytesPinLaw", name := "pairOk", desc := "(Ljava/lang/String;IB)Z" } : Jvm.MethodName) method_3_code (4 : Nat) (Option.some Jvm.ClassFile.FieldType.boolean)).before a0 Z = true := hw _ (List.mem_of_getElem? (i := 71) rfl)
theorem ow72 {Z : State} {a0 : Array Value} (hw : ∀ d ∈ tables_1, d.before a0 Z = true) : (Jvm.Cond.methodLink "com/example/crossweave/crossweave/PostgreSqlTextOfBytesPinLaw" (13 : Nat) ({ cls := "com/example/crossweave/crossweave/PostgreSqlTextOfBytesPinLaw", name := "hex", desc := "(I)C" } : Jvm.MethodName)).before a0 Z = true := hw _ (List.mem_of_getElem? (i := 72) rfl)
theorem ow73 {Z : State} {a0 : Array Value} (hw : ∀ d ∈ tables_1, d.before a0 Z = true) : (Jvm.Cond.static ({ cls := "com/example/crossweave/crossweave/PostgreSqlTextOfBytesPinLaw", name := "hex", desc := "(I)C" } : Jvm.MethodName)).before a0 Z = true := hw _ (List.mem_of_getElem? (i := 73) rfl)
theorem ow74 {Z : State} {a0 : Array Value} (hw : ∀ d ∈ tables_1, d.before a0 Z = true) : (Jvm.Cond.code ({ cls := "com/example/crossweave/crossweave/PostgreSqlTextOfBytesPinLaw", name := "hex", desc := "(I)C" } : Jvm.MethodName) method_2_code (1 : Nat) (Option.some Jvm.ClassFile.FieldType.char)).before a0 Z = true := hw _ (List.mem_of_getElem? (i := 74) rfl)
def own_hx (j : Int32) : Int32 := if j < 10 then j + 48 else j + 87
def own_hex (x : Int32) : Int32 := if x < 10 then ((48 : Int32) + x).toUInt32.toUInt16.toUInt32.toInt32 else ((97 : Int32) + (x - 10)).toUInt32.toUInt16.toUInt32.toInt32
def own_hxl : List Value := [(.int (48 : Int32)), (.int (49 : Int32)), (.int (50 : Int32)), (.int (51 : Int32)), (.int (52 : Int32)), (.int (53 : Int32)), (.int (54 : Int32)), (.int (55 : Int32)), (.int (56 : Int32)), (.int (57 : Int32)), (.int (97 : Int32)), (.int (98 : Int32)), (.int (99 : Int32)), (.int (100 : Int32)), (.int (101 : Int32)), (.int (102 : Int32))]
theorem own_hxl_at : ∀ k : Fin 16, own_hxl.getD (Int32.ofInt (k.val : Int)).toNatClampNeg (.int 0) = .int (own_hx (Int32.ofInt (k.val : Int))) := by decide +kernel
theorem own_m15 (x : Int32) : ¬ (x &&& (15 : Int32)) < 0 ∧ (x &&& (15 : Int32)) < 16 := by
  have m := c_mask x 15 4 (by decide) (by decide)
  have a0 : (0 : Int32).toInt = 0 := by decide
  have a1 : (16 : Int32).toInt = 16 := by decide
  rw [Int32.lt_iff_toInt_lt, Int32.lt_iff_toInt_lt, a0, a1]; omega
theorem own_hexAt {cl : Cell} (S : cl.slots.size = (16 : Int32).toNatClampNeg) (H : Has cl own_hxl (.int (0 : Int32))) (x : Int32) : cl.slots[(x &&& (15 : Int32)).toNatClampNeg]? = some (.int (own_hx (x &&& (15 : Int32)))) := by
  obtain ⟨q1, q2⟩ := own_m15 x
  have e : (16 : Int32).toInt = 16 := by decide
  obtain ⟨k, hk⟩ := own_small (n := 16) (by decide) (x &&& (15 : Int32)) q1 (by rw [Int32.lt_iff_toInt_lt, e] at q2; exact q2)
  have h := H.at (inb_of S ⟨q1, q2⟩) (v := .int (own_hx (x &&& (15 : Int32)))) (by rw [hk]; exact own_hxl_at k)
  exact h
theorem own_hx_all : ∀ k : Fin 16, ¬ (255 : Int32) < nar .char (own_hx (Int32.ofInt (k.val : Int))) := by decide +kernel
theorem own_hx255 (x : Int32) : ¬ (255 : Int32) < nar .char (own_hx (x &&& (15 : Int32))) := by
  obtain ⟨q1, q2⟩ := own_m15 x
  have e : (16 : Int32).toInt = 16 := by decide
  obtain ⟨k, hk⟩ := own_small (n := 16) (by decide) (x &&& (15 : Int32)) q1 (by rw [Int32.lt_iff_toInt_lt, e] at q2; exact q2)
  rw [hk]; exact own_hx_all k
abbrev own_hi (t : Int32) : Int32 := (nar .byte ((nar .char (own_hx ((t >>> ((4 : Int32) &&& 31)) &&& (15 : Int32)))).toInt8.toInt32))
abbrev own_lo (t : Int32) : Int32 := (nar .byte ((nar .char (own_hx (t &&& (15 : Int32)))).toInt8.toInt32))
theorem own_pairs : ∀ k : Fin 256, ((own_hi (nar .byte (Int8.ofNat k.val).toInt32) &&& (255 : Int32)).toUInt32.toUInt16.toUInt32.toInt32) = own_hex (((Int8.ofNat k.val).toInt32 &&& (255 : Int32)) / (16 : Int32)) ∧ ((own_lo (nar .byte (Int8.ofNat k.val).toInt32) &&& (255 : Int32)).toUInt32.toUInt16.toUInt32.toInt32) = own_hex (((Int8.ofNat k.val).toInt32 &&& (255 : Int32)) % (16 : Int32)) := by decide +kernel
theorem own_pair (t : Int8) : ((own_hi (nar .byte t.toInt32) &&& (255 : Int32)).toUInt32.toUInt16.toUInt32.toInt32) = own_hex ((t.toInt32 &&& (255 : Int32)) / (16 : Int32)) ∧ ((own_lo (nar .byte t.toInt32) &&& (255 : Int32)).toUInt32.toUInt16.toUInt32.toInt32) = own_hex ((t.toInt32 &&& (255 : Int32)) % (16 : Int32)) := by
  have e : t = Int8.ofNat (⟨t.toUInt8.toNat, t.toUInt8.toNat_lt⟩ : Fin 256).val := by
    apply Int8.toBitVec_inj.mp
    simp [Int8.toBitVec_ofNat']
  rw [e]; exact own_pairs _
theorem own_hexel {args : Array Value} {Z : State} {t : Jvm.Term} {a : Addr} {cl : Cell} {ty : FieldType} {G : Jvm.Cond} {k : Int64} (j v : Int32) (n : Nat) (ev : ∀ idx, t.eval args Z none idx Z = some (.ref a)) (A : Arr Z Z.heap a cl ty) (hj : ¬ j < 0) (hn : j.toNatClampNeg = n) (hs : n < cl.slots.size)
    (q : (Jvm.Cond.all t (.or G (.eq (.op1 .i2l (.elem t (.index 0))) (.op2 .ladd (.op1 .i2l (.index 0)) (.long k))))).value args Z none Z [] = some true) (hG : G.value args Z none Z [n] = some false) (he : v.toInt64 = j.toInt64 + k) : cl.slots[n]? = some (.int v) := by
  subst hn
  have c0 := Cond.all_elim (ev []) (A.fin (Vm.Alike.refl _)) q j.toNatClampNeg hs
  have c1 : (Jvm.Cond.eq (.op1 .i2l (.elem t (.index 0))) (.op2 .ladd (.op1 .i2l (.index 0)) (.long k))).value args Z none Z [j.toNatClampNeg] = some true := by
    simp only [Jvm.Cond.value, hG] at c0 ⊢
    exact c0
  have c2 : (Jvm.Term.op2 .ladd (.op1 .i2l (.index 0)) (.long k)).eval args Z none [j.toNatClampNeg] Z = some (.long (j.toInt64 + k)) := op2_f (i2l_at (idx_at hj)) (long_at k)
  have c3 := eqv_l c2 c1
  obtain ⟨x, c4, c5⟩ := op1_v c3
  have c6 := (elem_in c4 (ev _) (idx_at hj) A.1).2
  cases x <;> simp [Jvm.Unary.apply] at c5
  rename_i e
  rw [c6, show e = v from Int32.toInt_inj.mp (by have := congrArg Int64.toInt (c5.trans he.symm); simpa using this)]
theorem own_size16 {n : Nat} (h1 : n < 2 ^ 31) (h2 : n.toInt32 = 16) : n = 16 := by
  have e : n.toInt32.toNatClampNeg = (16 : Int32).toNatClampNeg := by rw [h2]
  simp only [Int32.toNatClampNeg, len_toInt h1] at e
  have : (16 : Int32).toInt.toNat = 16 := by decide
  omega
theorem own_and3 (k : Int32) : k &&& 3 = 0 ∨ k &&& 3 = 1 ∨ k &&& 3 = 2 ∨ k &&& 3 = 3 := by
  have h1 := c_mask k 3 2 (by decide) (by decide)
  have h3 : ∀ z : Int32, (k &&& 3).toInt = z.toInt → k &&& 3 = z := fun z q => Int32.toInt_inj.mp q
  have a0 : (0 : Int32).toInt = 0 := by decide
  have a1 : (1 : Int32).toInt = 1 := by decide
  have a2 : (2 : Int32).toInt = 2 := by decide
  have a3 : (3 : Int32).toInt = 3 := by decide
  have : (k &&& 3).toInt = 0 ∨ (k &&& 3).toInt = 1 ∨ (k &&& 3).toInt = 2 ∨ (k &&& 3).toInt = 3 := by omega
  rcases this with q | q | q | q
  · exact Or.inl (h3 0 (by rw [q, a0]))
  · exact Or.inr (Or.inl (h3 1 (by rw [q, a1])))
  · exact Or.inr (Or.inr (Or.inl (h3 2 (by rw [q, a2]))))
  · exact Or.inr (Or.inr (Or.inr (h3 3 (by rw [q, a3]))))

theorem pn0 : plainName "java/lang/String" = true := by first | (simp [plainName, overriddenIn]; done) | decide +kernel
theorem d9_0 : decode jdk_42_method_152_code 0 = .ok (.getstatic 38, 3) := by decide +kernel
theorem d9_3 : decode jdk_42_method_152_code 3 = .ok (.ifCond .eq 10, 3) := by decide +kernel
theorem d9_6 : decode jdk_42_method_152_code 6 = .ok (.aload_n 0, 1) := by decide +kernel
theorem d9_7 : decode jdk_42_method_152_code 7 = .ok (.getfield 15, 3) := by decide +kernel
theorem d9_10 : decode jdk_42_method_152_code 10 = .ok (.goto 4, 3) := by decide +kernel
theorem d9_14 : decode jdk_42_method_152_code 14 = .ok (.ireturn, 1) := by decide +kernel
theorem ef_rgco (m : MethodId) (x0 : Addr) : entryFrame m #[(.ref x0)] 1 = mkF m 0 #[.val (.ref x0)] [] := by first | (simp [entryFrame, mkF, argsToLocals, Value.category]; done) | rfl
def Q_rgco (Z : State) (s_ : Addr) (qc : Int32) (h0 : Heap) (n0 : Nat) (v : Option Value) (h : Heap) (L : List Loc) : Prop := v = some (.int (0 : Int32)) ∧ Fr n0 L ∧ h = h0
set_option maxRecDepth 65536 in
set_option maxHeartbeats 40000000 in
theorem rgco (l : Launch) (Z : State) (a0 : Array Value) (hw : ∀ d ∈ tables_1, d.before a0 Z = true) (ws : List Jvm.Cond) (s_ : Addr) (qc : Int32) (h0 : Heap) (n0 : Nat) (Z0 : n0 ≤ h0.size) (F_c : Fld Z h0 s_ "java/lang/String" "coder" "B" (.int (0 : Int32))) (S_q : Sta Z h0 "java/lang/String" "COMPACT_STRINGS" "Z" (.int qc)) (hq : ¬ qc = 0) :
    OCon l Z (⟨"java/lang/String", "coder", "()B"⟩ : MethodName) jdk_42_method_152_code 1 (some .byte) ws ({ frames := 0, cells := 0, slots := 0, locals := 0 } : Room) #[(.ref s_)] h0 (Q_rgco Z s_ qc h0 n0) := by
  refine OCon.of (plainFor_of_name pn0) ?_
  intro p e s m below meth c s₁ Φ X0 hx hby hml hown hnm hret hlk hZ e0 hΦ
  have N0 := Fr.nil n0
  refine OGo.st (fun _ kz => castTop (ef_rgco m s_) kz) ?_
  show OG p e below Φ s₁ m 0 #[rv s_] []
  obtain ⟨T1, X1, e1, st1⟩ := getS2 X0 hx hZ hown (host := "") (Or.inl (ow19 hw)) Via.refl e0 S_q (g := (mkF m 0 #[rv s_] [])) rfl (hb hby d9_0)
  refine OGo.st st1 ?_
  show OG p e below Φ T1 m 3 #[rv s_] [(.int qc)]
  refine OGo.st (fun _ kz => XS.ifNo X1.here hx rfl (hb hby d9_3) rfl (XT.i0_eq_f hq) kz) ?_
  show OG p e below Φ T1 m 6 #[rv s_] []
  refine OGo.st (fun _ kz => XS.aloadN X1.here hx rfl (hb hby d9_6) rfl rfl kz) ?_
  show OG p e below Φ T1 m 7 #[rv s_] [(.ref s_)]
  obtain ⟨T2, X2, e2, st2⟩ := getF X1 hx hZ hown (host := "") (Or.inl (ow30 hw)) Via.refl e1 F_c (g := (mkF m 7 #[rv s_] [(.ref s_)])) rfl rfl (hb hby d9_7)
  refine OGo.st st2 ?_
  show OG p e below Φ T2 m 10 #[rv s_] [(.int 0)]
  refine OGo.st (fun _ kz => XS.goto X2.here hx rfl (pc0 := 10) (pc' := 14) rfl (hb hby d9_10) (by decide) (by decide) kz) ?_
  show OG p e below Φ T2 m 14 #[rv s_] [(.int 0)]
  refine OGo.fin X2 hlk (v := (some (.int 0))) (fun h => by rw [hret] at h; cases h) (by decide) (by decide) (fun fs hr => X2.ireturnOut hx hret rfl (by simp) (hb hby d9_14) hr) fun U eU hF => hΦ _ _ _ ?_ hF
  rw [eU, e2]
  show Q_rgco Z s_ qc h0 n0 _ _ _
  exact ⟨rfl, N0, rfl⟩

theorem d11_0 : decode jdk_42_method_154_code 0 = .ok (.getstatic 38, 3) := by decide +kernel
theorem d11_3 : decode jdk_42_method_154_code 3 = .ok (.ifCond .eq 14, 3) := by decide +kernel
theorem d11_6 : decode jdk_42_method_154_code 6 = .ok (.aload_n 0, 1) := by decide +kernel
theorem d11_7 : decode jdk_42_method_154_code 7 = .ok (.getfield 15, 3) := by decide +kernel
theorem d11_10 : decode jdk_42_method_154_code 10 = .ok (.ifCond .ne 7, 3) := by decide +kernel
theorem d11_13 : decode jdk_42_method_154_code 13 = .ok (.iconst 1, 1) := by decide +kernel
theorem d11_14 : decode jdk_42_method_154_code 14 = .ok (.goto 4, 3) := by decide +kernel
theorem d11_18 : decode jdk_42_method_154_code 18 = .ok (.ireturn, 1) := by decide +kernel
theorem ef_rgis (m : MethodId) (x0 : Addr) : entryFrame m #[(.ref x0)] 1 = mkF m 0 #[.val (.ref x0)] [] := by first | (simp [entryFrame, mkF, argsToLocals, Value.category]; done) | rfl
def Q_rgis (Z : State) (s_ : Addr) (qc : Int32) (h0 : Heap) (n0 : Nat) (v : Option Value) (h : Heap) (L : List Loc) : Prop := v = some (.int (1 : Int32)) ∧ Fr n0 L ∧ h = h0
set_option maxRecDepth 65536 in
set_option maxHeartbeats 40000000 in
theorem rgis (l : Launch) (Z : State) (a0 : Array Value) (hw : ∀ d ∈ tables_1, d.before a0 Z = true) (ws : List Jvm.Cond) (s_ : Addr) (qc : Int32) (h0 : Heap) (n0 : Nat) (Z0 : n0 ≤ h0.size) (F_c : Fld Z h0 s_ "java/lang/String" "coder" "B" (.int (0 : Int32))) (S_q : Sta Z h0 "java/lang/String" "COMPACT_STRINGS" "Z" (.int qc)) (hq : ¬ qc = 0) :
    OCon l Z (⟨"java/lang/String", "isLatin1", "()Z"⟩ : MethodName) jdk_42_method_154_code 1 (some .boolean) ws ({ frames := 0, cells := 0, slots := 0, locals := 0 } : Room) #[(.ref s_)] h0 (Q_rgis Z s_ qc h0 n0) := by
  refine OCon.of (plainFor_of_name pn0) ?_
  intro p e s m below meth c s₁ Φ X0 hx hby hml hown hnm hret hlk hZ e0 hΦ
  have N0 := Fr.nil n0
  refine OGo.st (fun _ kz => castTop (ef_rgis m s_) kz) ?_
  show OG p e below Φ s₁ m 0 #[rv s_] []
  obtain ⟨T1, X1, e1, st1⟩ := getS2 X0 hx hZ hown (host := "") (Or.inl (ow19 hw)) Via.refl e0 S_q (g := (mkF m 0 #[rv s_] [])) rfl (hb hby d11_0)
  refine OGo.st st1 ?_
  show OG p e below Φ T1 m 3 #[rv s_] [(.int qc)]
  refine OGo.st (fun _ kz => XS.ifNo X1.here hx rfl (hb hby d11_3) rfl (XT.i0_eq_f hq) kz) ?_
  show OG p e below Φ T1 m 6 #[rv s_] []
  refine OGo.st (fun _ kz => XS.aloadN X1.here hx rfl (hb hby d11_6) rfl rfl kz) ?_
  show OG p e below Φ T1 m 7 #[rv s_] [(.ref s_)]
  obtain ⟨T2, X2, e2, st2⟩ := getF X1 hx hZ hown (host := "") (Or.inl (ow30 hw)) Via.refl e1 F_c (g := (mkF m 7 #[rv s_] [(.ref s_)])) rfl rfl (hb hby d11_7)
  refine OGo.st st2 ?_
  show OG p e below Φ T2 m 10 #[rv s_] [(.int 0)]
  refine OGo.st (fun _ kz => XS.ifNo X2.here hx rfl (hb hby d11_10) rfl (XT.i0_ne_f (by decide)) kz) ?_
  show OG p e below Φ T2 m 13 #[rv s_] []
  refine OGo.st (fun _ kz => XS.iconst X2.here hx rfl (hb hby d11_13) kz) ?_
  show OG p e below Φ T2 m 14 #[rv s_] [(.int 1)]
  refine OGo.st (fun _ kz => XS.goto X2.here hx rfl (pc0 := 14) (pc' := 18) rfl (hb hby d11_14) (by decide) (by decide) kz) ?_
  show OG p e below Φ T2 m 18 #[rv s_] [(.int 1)]
  refine OGo.fin X2 hlk (v := (some (.int 1))) (fun h => by rw [hret] at h; cases h) (by decide) (by decide) (fun fs hr => X2.ireturnOut hx hret rfl (by simp) (hb hby d11_18) hr) fun U eU hF => hΦ _ _ _ ?_ hF
  rw [eU, e2]
  show Q_rgis Z s_ qc h0 n0 _ _ _
  exact ⟨rfl, N0, rfl⟩

theorem pn1 : plainName "com/example/crossweave/crossweave/PostgreSqlTextOfBytesPinLaw" = true := by first | (simp [plainName, overriddenIn]; done) | decide +kernel
theorem d16_0 : decode method_2_code 0 = .ok (.iload_n 0, 1) := by decide +kernel
theorem d16_1 : decode method_2_code 1 = .ok (.bipush 10, 2) := by decide +kernel
theorem d16_3 : decode method_2_code 3 = .ok (.if_icmp .ge 9, 3) := by decide +kernel
theorem d16_6 : decode method_2_code 6 = .ok (.bipush 48, 2) := by decide +kernel
theorem d16_8 : decode method_2_code 8 = .ok (.iload_n 0, 1) := by decide +kernel
theorem d16_9 : decode method_2_code 9 = .ok (.iadd, 1) := by decide +kernel
theorem d16_10 : decode method_2_code 10 = .ok (.i2c, 1) := by decide +kernel
theorem d16_11 : decode method_2_code 11 = .ok (.ireturn, 1) := by decide +kernel
theorem d16_12 : decode method_2_code 12 = .ok (.bipush 97, 2) := by decide +kernel
theorem d16_14 : decode method_2_code 14 = .ok (.iload_n 0, 1) := by decide +kernel
theorem d16_15 : decode method_2_code 15 = .ok (.bipush 10, 2) := by decide +kernel
theorem d16_17 : decode method_2_code 17 = .ok (.isub, 1) := by decide +kernel
theorem d16_18 : decode method_2_code 18 = .ok (.iadd, 1) := by decide +kernel
theorem d16_19 : decode method_2_code 19 = .ok (.i2c, 1) := by decide +kernel
theorem d16_20 : decode method_2_code 20 = .ok (.ireturn, 1) := by decide +kernel
theorem ef_rmh (m : MethodId) (x0 : Int32) : entryFrame m #[(.int x0)] 1 = mkF m 0 #[.val (.int x0)] [] := by first | (simp [entryFrame, mkF, argsToLocals, Value.category]; done) | rfl
def Q_rmh (Z : State) (x0 : Int32) (h0 : Heap) (n0 : Nat) (v : Option Value) (h : Heap) (L : List Loc) : Prop := v = some (.int (own_hex x0)) ∧ Fr n0 L ∧ h = h0
set_option maxRecDepth 65536 in
set_option maxHeartbeats 40000000 in
theorem rmh (l : Launch) (Z : State) (a0 : Array Value) (hw : ∀ d ∈ tables_1, d.before a0 Z = true) (ws : List Jvm.Cond) (x0 : Int32) (h0 : Heap) (n0 : Nat) (Z0 : n0 ≤ h0.size)  :
    OCon l Z (⟨"com/example/crossweave/crossweave/PostgreSqlTextOfBytesPinLaw", "hex", "(I)C"⟩ : MethodName) method_2_code 1 (some .char) ws ({ frames := 0, cells := 0, slots := 0, locals := 0 } : Room) #[(.int x0)] h0 (Q_rmh Z x0 h0 n0) := by
  refine OCon.of (plainFor_of_name pn1) ?_
  intro p e s m below meth c s₁ Φ X0 hx hby hml hown hnm hret hlk hZ e0 hΦ
  have N0 := Fr.nil n0
  refine OGo.st (fun _ kz => castTop (ef_rmh m x0) kz) ?_
  show OG p e below Φ s₁ m 0 #[iv x0] []
  refine OGo.st (fun _ kz => XS.iloadN X0.here hx rfl (hb hby d16_0) rfl kz) ?_
  show OG p e below Φ s₁ m 1 #[iv x0] [(.int x0)]
  refine OGo.st (fun _ kz => XS.bipush X0.here hx rfl (hb hby d16_1) kz) ?_
  show OG p e below Φ s₁ m 3 #[iv x0] [(.int 10), (.int x0)]
  by_cases hc1 : x0 < (10 : Int32)
  · refine OGo.st (fun _ kz => XS.icmpNo X0.here hx rfl (hb hby d16_3) rfl (XT.ii_ge_f hc1) kz) ?_
    show OG p e below Φ s₁ m 6 #[iv x0] []
    refine OGo.st (fun _ kz => XS.bipush X0.here hx rfl (hb hby d16_6) kz) ?_
    show OG p e below Φ s₁ m 8 #[iv x0] [(.int 48)]
    refine OGo.st (fun _ kz => XS.iloadN X0.here hx rfl (hb hby d16_8) rfl kz) ?_
    show OG p e below Φ s₁ m 9 #[iv x0] [(.int x0), (.int 48)]
    refine OGo.st (fun _ kz => XS.iadd X0.here hx rfl (hb hby d16_9) rfl kz) ?_
    show OG p e below Φ s₁ m 10 #[iv x0] [(.int ((48 : Int32) + x0))]
    refine OGo.st (fun _ kz => XT.i2c X0.here hx rfl (hb hby d16_10) rfl kz) ?_
    show OG p e below Φ s₁ m 11 #[iv x0] [(.int (((48 : Int32) + x0).toUInt32.toUInt16.toUInt32.toInt32))]
    refine OGo.fin X0 hlk (v := (some (.int (((48 : Int32) + x0).toUInt32.toUInt16.toUInt32.toInt32)))) (fun h => by rw [hret] at h; cases h) (by decide) (by decide) (fun fs hr => X0.ireturnOut hx hret (XT.narrow_c _) (by simp) (hb hby d16_11) hr) fun U eU hF => hΦ _ _ _ ?_ hF
    rw [eU, e0]
    show Q_rmh Z x0 h0 n0 _ _ _
    exact ⟨by simp [own_hex, hc1], N0, rfl⟩
  · refine OGo.st (fun _ kz => XS.icmpYes X0.here hx rfl (pc0 := 3) (pc' := 12) rfl (hb hby d16_3) rfl (XT.ii_ge_t hc1) (by decide) (by decide) kz) ?_
    show OG p e below Φ s₁ m 12 #[iv x0] []
    refine OGo.st (fun _ kz => XS.bipush X0.here hx rfl (hb hby d16_12) kz) ?_
    show OG p e below Φ s₁ m 14 #[iv x0] [(.int 97)]
    refine OGo.st (fun _ kz => XS.iloadN X0.here hx rfl (hb hby d16_14) rfl kz) ?_
    show OG p e below Φ s₁ m 15 #[iv x0] [(.int x0), (.int 97)]
    refine OGo.st (fun _ kz => XS.bipush X0.here hx rfl (hb hby d16_15) kz) ?_
    show OG p e below Φ s₁ m 17 #[iv x0] [(.int 10), (.int x0), (.int 97)]
    refine OGo.st (fun _ kz => XS.isub X0.here hx rfl (hb hby d16_17) rfl kz) ?_
    show OG p e below Φ s₁ m 18 #[iv x0] [(.int (x0 - (10 : Int32))), (.int 97)]
    refine OGo.st (fun _ kz => XS.iadd X0.here hx rfl (hb hby d16_18) rfl kz) ?_
    show OG p e below Φ s₁ m 19 #[iv x0] [(.int ((97 : Int32) + (x0 - (10 : Int32))))]
    refine OGo.st (fun _ kz => XT.i2c X0.here hx rfl (hb hby d16_19) rfl kz) ?_
    show OG p e below Φ s₁ m 20 #[iv x0] [(.int (((97 : Int32) + (x0 - (10 : Int32))).toUInt32.toUInt16.toUInt32.toInt32))]
    refine OGo.fin X0 hlk (v := (some (.int (((97 : Int32) + (x0 - (10 : Int32))).toUInt32.toUInt16.toUInt32.toInt32)))) (fun h => by rw [hret] at h; cases h) (by decide) (by decide) (fun fs hr => X0.ireturnOut hx hret (XT.narrow_c _) (by simp) (hb hby d16_20) hr) fun U eU hF => hΦ _ _ _ ?_ hF
    rw [eU, e0]
    show Q_rmh Z x0 h0 n0 _ _ _
    exact ⟨by simp [own_hex, hc1], N0, rfl⟩

theorem pn2 : plainName "jdk/internal/util/Preconditions" = true := by first | (simp [plainName, overriddenIn]; done) | decide +kernel
theorem d14_0 : decode jdk_41_method_11_code 0 = .ok (.iload_n 0, 1) := by decide +kernel
theorem d14_1 : decode jdk_41_method_11_code 1 = .ok (.ifCond .lt 8, 3) := by decide +kernel
theorem d14_4 : decode jdk_41_method_11_code 4 = .ok (.iload_n 0, 1) := by decide +kernel
theorem d14_5 : decode jdk_41_method_11_code 5 = .ok (.iload_n 1, 1) := by decide +kernel
theorem d14_6 : decode jdk_41_method_11_code 6 = .ok (.if_icmp .lt 10, 3) := by decide +kernel
theorem d14_16 : decode jdk_41_method_11_code 16 = .ok (.iload_n 0, 1) := by decide +kernel
theorem d14_17 : decode jdk_41_method_11_code 17 = .ok (.ireturn, 1) := by decide +kernel
theorem ef_rgpi (m : MethodId) (x0 : Int32) (x1 : Int32) (x2 : Value) (hx2 : x2.isRef = true) : entryFrame m #[(.int x0), (.int x1), x2] 3 = mkF m 0 #[.val (.int x0), .val (.int x1), .val x2] [] := by
  rcases XT.refc hx2 with rfl | ⟨r2, rfl⟩
  all_goals first | (simp [entryFrame, mkF, argsToLocals, Value.category]; done) | rfl
def Q_rgpi (Z : State) (xi : Int32) (xn : Int32) (vf : Value) (h0 : Heap) (n0 : Nat) (v : Option Value) (h : Heap) (L : List Loc) : Prop := v = some (.int xi) ∧ Fr n0 L ∧ h = h0
set_option maxRecDepth 65536 in
set_option maxHeartbeats 40000000 in
theorem rgpi (l : Launch) (Z : State) (a0 : Array Value) (hw : ∀ d ∈ tables_1, d.before a0 Z = true) (ws : List Jvm.Cond) (xi : Int32) (xn : Int32) (vf : Value) (h0 : Heap) (n0 : Nat) (Z0 : n0 ≤ h0.size) (q0 : ¬ xi < 0) (q1 : xi < xn) (rvf : vf.isRef = true) :
    OCon l Z (⟨"jdk/internal/util/Preconditions", "checkIndex", "(IILjava/util/function/BiFunction;)I"⟩ : MethodName) jdk_41_method_11_code 3 (some .int) ws ({ frames := 0, cells := 0, slots := 0, locals := 0 } : Room) #[(.int xi), (.int xn), vf] h0 (Q_rgpi Z xi xn vf h0 n0) := by
  refine OCon.of (plainFor_of_name pn2) ?_
  intro p e s m below meth c s₁ Φ X0 hx hby hml hown hnm hret hlk hZ e0 hΦ
  have N0 := Fr.nil n0
  refine OGo.st (fun _ kz => castTop (ef_rgpi m xi xn vf rvf) kz) ?_
  show OG p e below Φ s₁ m 0 #[iv xi, iv xn, .val vf] []
  refine OGo.st (fun _ kz => XS.iloadN X0.here hx rfl (hb hby d14_0) rfl kz) ?_
  show OG p e below Φ s₁ m 1 #[iv xi, iv xn, .val vf] [(.int xi)]
  refine OGo.st (fun _ kz => XS.ifNo X0.here hx rfl (hb hby d14_1) rfl (XT.i0_lt_f q0) kz) ?_
  show OG p e below Φ s₁ m 4 #[iv xi, iv xn, .val vf] []
  refine OGo.st (fun _ kz => XS.iloadN X0.here hx rfl (hb hby d14_4) rfl kz) ?_
  show OG p e below Φ s₁ m 5 #[iv xi, iv xn, .val vf] [(.int xi)]
  refine OGo.st (fun _ kz => XS.iloadN X0.here hx rfl (hb hby d14_5) rfl kz) ?_
  show OG p e below Φ s₁ m 6 #[iv xi, iv xn, .val vf] [(.int xn), (.int xi)]
  refine OGo.st (fun _ kz => XS.icmpYes X0.here hx rfl (pc0 := 6) (pc' := 16) rfl (hb hby d14_6) rfl (XT.ii_lt_t q1) (by decide) (by decide) kz) ?_
  show OG p e below Φ s₁ m 16 #[iv xi, iv xn, .val vf] []
  refine OGo.st (fun _ kz => XS.iloadN X0.here hx rfl (hb hby d14_16) rfl kz) ?_
  show OG p e below Φ s₁ m 17 #[iv xi, iv xn, .val vf] [(.int xi)]
  refine OGo.fin X0 hlk (v := (some (.int xi))) (fun h => by rw [hret] at h; cases h) (by decide) (by decide) (fun fs hr => X0.ireturnOut hx hret rfl (by simp) (hb hby d14_17) hr) fun U eU hF => hΦ _ _ _ ?_ hF
  rw [eU, e0]
  show Q_rgpi Z xi xn vf h0 n0 _ _ _
  exact ⟨rfl, N0, rfl⟩

theorem d13_0 : decode jdk_42_method_155_code 0 = .ok (.iload_n 0, 1) := by decide +kernel
theorem d13_1 : decode jdk_42_method_155_code 1 = .ok (.iload_n 1, 1) := by decide +kernel
theorem d13_2 : decode jdk_42_method_155_code 2 = .ok (.getstatic 1053, 3) := by decide +kernel
theorem d13_5 : decode jdk_42_method_155_code 5 = .ok (.invokestatic 1059, 3) := by decide +kernel
theorem pd0 : parseMethodDescriptor "(IILjava/util/function/BiFunction;)I" = some ⟨[.int, .int, (.object "java/util/function/BiFunction")], some .int⟩ := by decide +kernel
theorem d13_8 : decode jdk_42_method_155_code 8 = .ok (.pop, 1) := by decide +kernel
theorem d13_9 : decode jdk_42_method_155_code 9 = .ok (.return_, 1) := by decide +kernel
theorem ef_rgci (m : MethodId) (x0 : Int32) (x1 : Int32) : entryFrame m #[(.int x0), (.int x1)] 2 = mkF m 0 #[.val (.int x0), .val (.int x1)] [] := by first | (simp [entryFrame, mkF, argsToLocals, Value.category]; done) | rfl
def Q_rgci (Z : State) (xi : Int32) (xn : Int32) (vf : Value) (h0 : Heap) (n0 : Nat) (v : Option Value) (h : Heap) (L : List Loc) : Prop := v = none ∧ Fr n0 L ∧ h = h0
set_option maxRecDepth 65536 in
set_option maxHeartbeats 40000000 in
theorem rgci (l : Launch) (Z : State) (a0 : Array Value) (hw : ∀ d ∈ tables_1, d.before a0 Z = true) (ws : List Jvm.Cond) (xi : Int32) (xn : Int32) (vf : Value) (h0 : Heap) (n0 : Nat) (Z0 : n0 ≤ h0.size) (q0 : ¬ xi < 0) (q1 : xi < xn) (S_f : Sta Z h0 "jdk/internal/util/Preconditions" "SIOOBE_FORMATTER" "Ljava/util/function/BiFunction;" vf) (rvf : vf.isRef = true) :
    OCon l Z (⟨"java/lang/String", "checkIndex", "(II)V"⟩ : MethodName) jdk_42_method_155_code 2 none ws ({ frames := 1, cells := 0, slots := 0, locals := 14 } : Room) #[(.int xi), (.int xn)] h0 (Q_rgci Z xi xn vf h0 n0) := by
  refine OCon.of (plainFor_of_name pn0) ?_
  intro p e s m below meth c s₁ Φ X0 hx hby hml hown hnm hret hlk hZ e0 hΦ
  have N0 := Fr.nil n0
  refine OGo.st (fun _ kz => castTop (ef_rgci m xi xn) kz) ?_
  show OG p e below Φ s₁ m 0 #[iv xi, iv xn] []
  refine OGo.st (fun _ kz => XS.iloadN X0.here hx rfl (hb hby d13_0) rfl kz) ?_
  show OG p e below Φ s₁ m 1 #[iv xi, iv xn] [(.int xi)]
  refine OGo.st (fun _ kz => XS.iloadN X0.here hx rfl (hb hby d13_1) rfl kz) ?_
  show OG p e below Φ s₁ m 2 #[iv xi, iv xn] [(.int xn), (.int xi)]
  obtain ⟨T1, X1, e1, st1⟩ := getS2 X0 hx hZ hown (host := "") (Or.inl (ow61 hw)) Via.refl e0 S_f (g := (mkF m 2 #[iv xi, iv xn] [(.int xn), (.int xi)])) rfl (hb hby d13_2)
  refine OGo.st st1 ?_
  show OG p e below Φ T1 m 5 #[iv xi, iv xn] [vf, (.int xn), (.int xi)]
  obtain ⟨_, T2, L2, X2, hQ2, st2⟩ := own_callSt X1 hx hZ hown (ow63 hw) (ow64 hw) (ow62 hw) (ow65 hw) (by decide) (rgpi l Z a0 hw [] xi xn vf h0 n0 Z0 q0 q1 rvf) e1 (W := 0) (by decide) (by decide) (by decide) (by decide) (pc := 5) (ls := #[iv xi, iv xn]) (stk := [vf, (.int xn), (.int xi)]) (by rw [hml]; rfl) (argsL := [(.int xi), (.int xn), vf]) (rest := []) (lenOf pd0 rfl) rfl rfl (Nat.le_of_eq rfl) (hb hby d13_5)
  obtain ⟨rfl, Nq2, e2⟩ := hQ2
  have N2 := Fr.app N0 Nq2
  refine OGo.st st2 ?_
  show OG p e below Φ T2 m 8 #[iv xi, iv xn] [(.int xi)]
  refine OGo.st (fun _ kz => XT.pop X2.here hx rfl (hb hby d13_8) rfl rfl kz) ?_
  show OG p e below Φ T2 m 9 #[iv xi, iv xn] []
  refine OGo.fin X2 hlk (v := none) (fun _ => rfl) (by decide) (by decide) (fun fs hr => X2.returnOut hx hret (hb hby d13_9) hr) fun U eU hF => hΦ _ _ _ ?_ hF
  rw [eU, e2]
  show Q_rgci Z xi xn vf h0 n0 _ _ _
  exact ⟨rfl, N2, rfl⟩

theorem pn3 : plainName "java/lang/StringUTF16" = true := by first | (simp [plainName, overriddenIn]; done) | decide +kernel
theorem d6_0 : decode jdk_52_method_21_code 0 = .ok (.iconst 0, 1) := by decide +kernel
theorem d6_1 : decode jdk_52_method_21_code 1 = .ok (.istore 5, 2) := by decide +kernel
theorem d6_3 : decode jdk_52_method_21_code 3 = .ok (.iload 5, 2) := by decide +kernel
theorem d6_5 : decode jdk_52_method_21_code 5 = .ok (.iload 4, 2) := by decide +kernel
theorem d6_7 : decode jdk_52_method_21_code 7 = .ok (.if_icmp .ge 37, 3) := by decide +kernel
theorem d6_10 : decode jdk_52_method_21_code 10 = .ok (.aload_n 0, 1) := by decide +kernel
theorem d6_11 : decode jdk_52_method_21_code 11 = .ok (.iload_n 1, 1) := by decide +kernel
theorem d6_12 : decode jdk_52_method_21_code 12 = .ok (.caload, 1) := by decide +kernel
theorem d6_13 : decode jdk_52_method_21_code 13 = .ok (.istore 6, 2) := by decide +kernel
theorem d6_15 : decode jdk_52_method_21_code 15 = .ok (.iload 6, 2) := by decide +kernel
theorem d6_17 : decode jdk_52_method_21_code 17 = .ok (.sipush 255, 3) := by decide +kernel
theorem d6_20 : decode jdk_52_method_21_code 20 = .ok (.if_icmp .le 6, 3) := by decide +kernel
theorem d6_26 : decode jdk_52_method_21_code 26 = .ok (.aload_n 2, 1) := by decide +kernel
theorem d6_27 : decode jdk_52_method_21_code 27 = .ok (.iload_n 3, 1) := by decide +kernel
theorem d6_28 : decode jdk_52_method_21_code 28 = .ok (.iload 6, 2) := by decide +kernel
theorem d6_30 : decode jdk_52_method_21_code 30 = .ok (.i2b, 1) := by decide +kernel
theorem d6_31 : decode jdk_52_method_21_code 31 = .ok (.bastore, 1) := by decide +kernel
theorem d6_32 : decode jdk_52_method_21_code 32 = .ok (.iinc 1 1, 3) := by decide +kernel
theorem d6_35 : decode jdk_52_method_21_code 35 = .ok (.iinc 3 1, 3) := by decide +kernel
theorem d6_38 : decode jdk_52_method_21_code 38 = .ok (.iinc 5 1, 3) := by decide +kernel
theorem d6_41 : decode jdk_52_method_21_code 41 = .ok (.goto (-38), 3) := by decide +kernel
theorem d6_44 : decode jdk_52_method_21_code 44 = .ok (.iload 4, 2) := by decide +kernel
theorem d6_46 : decode jdk_52_method_21_code 46 = .ok (.ireturn, 1) := by decide +kernel
theorem ef_rs2c2 (m : MethodId) (x0 : Addr) (x1 : Int32) (x2 : Addr) (x3 : Int32) (x4 : Int32) : entryFrame m #[(.ref x0), (.int x1), (.ref x2), (.int x3), (.int x4)] 7 = mkF m 0 #[.val (.ref x0), .val (.int x1), .val (.ref x2), .val (.int x3), .val (.int x4), .unset, .unset] [] := by first | (simp [entryFrame, mkF, argsToLocals, Value.category]; done) | rfl
def Q_rs2c2 (Z : State) (a : Addr) (ca : ClassId) (b : Addr) (cb : ClassId) (c0_ : Int32) (c1_ : Int32) (h0 : Heap) (n0 : Nat) (v : Option Value) (h : Heap) (L : List Loc) : Prop := v = some (.int (2 : Int32)) ∧ Fr n0 L ∧ Keep h0 h [b] ∧ Arv Z h b cb .byte (2 : Int32) [(.int (nar .byte (c0_.toInt8.toInt32))), (.int (nar .byte (c1_.toInt8.toInt32)))] (.int (0 : Int32))
set_option maxRecDepth 65536 in
set_option maxHeartbeats 40000000 in
theorem rs2c2 (l : Launch) (Z : State) (a0 : Array Value) (hw : ∀ d ∈ tables_1, d.before a0 Z = true) (ws : List Jvm.Cond) (a : Addr) (ca : ClassId) (b : Addr) (cb : ClassId) (c0_ : Int32) (c1_ : Int32) (h0 : Heap) (n0 : Nat) (Z0 : n0 ≤ h0.size) (V_a : Arv Z h0 a ca .char (2 : Int32) [(.int c0_), (.int c1_)] (.int (0 : Int32))) (V_b : Arv Z h0 b cb .byte (2 : Int32) [(.int (0 : Int32)), (.int (0 : Int32))] (.int (0 : Int32))) (nab : a ≠ b) (g_b : n0 ≤ b) (hl0 : ¬ (255 : Int32) < c0_) (hl1 : ¬ (255 : Int32) < c1_) :
    OCon l Z (⟨"java/lang/StringUTF16", "compress", "([CI[BII)I"⟩ : MethodName) jdk_52_method_21_code 7 (some .int) ws ({ frames := 0, cells := 0, slots := 0, locals := 0 } : Room) #[(.ref a), (.int (0 : Int32)), (.ref b), (.int (0 : Int32)), (.int (2 : Int32))] h0 (Q_rs2c2 Z a ca b cb c0_ c1_ h0 n0) := by
  refine OCon.of (plainFor_of_name pn3) ?_
  intro p e s m below meth c s₁ Φ X0 hx hby hml hown hnm hret hlk hZ e0 hΦ
  have N0 := Fr.nil n0
  refine OGo.st (fun _ kz => castTop (ef_rs2c2 m a (0 : Int32) b (0 : Int32) (2 : Int32)) kz) ?_
  have K0 := Keep.refl h0 [b]
  show OG p e below Φ s₁ m 0 #[rv a, iv 0, rv b, iv 0, iv 2, .unset, .unset] []
  refine OGo.st (fun _ kz => XS.iconst X0.here hx rfl (hb hby d6_0) kz) ?_
  show OG p e below Φ s₁ m 1 #[rv a, iv 0, rv b, iv 0, iv 2, .unset, .unset] [(.int 0)]
  refine OGo.st (fun _ kz => XS.istore X0.here hx rfl (hb hby d6_1) rfl (l' := #[rv a, iv 0, rv b, iv 0, iv 2, iv 0, .unset]) rfl kz) ?_
  show OG p e below Φ s₁ m 3 #[rv a, iv 0, rv b, iv 0, iv 2, iv 0, .unset] []
  refine OGo.st (fun _ kz => XS.iload X0.here hx rfl (hb hby d6_3) rfl kz) ?_
  show OG p e below Φ s₁ m 5 #[rv a, iv 0, rv b, iv 0, iv 2, iv 0, .unset] [(.int 0)]
  refine OGo.st (fun _ kz => XS.iload X0.here hx rfl (hb hby d6_5) rfl kz) ?_
  show OG p e below Φ s₁ m 7 #[rv a, iv 0, rv b, iv 0, iv 2, iv 0, .unset] [(.int 2), (.int 0)]
  refine OGo.st (fun _ kz => XS.icmpNo X0.here hx rfl (hb hby d6_7) rfl (XT.ii_ge_f (by decide)) kz) ?_
  show OG p e below Φ s₁ m 10 #[rv a, iv 0, rv b, iv 0, iv 2, iv 0, .unset] []
  refine OGo.st (fun _ kz => XS.aloadN X0.here hx rfl (hb hby d6_10) rfl rfl kz) ?_
  show OG p e below Φ s₁ m 11 #[rv a, iv 0, rv b, iv 0, iv 2, iv 0, .unset] [(.ref a)]
  refine OGo.st (fun _ kz => XS.iloadN X0.here hx rfl (hb hby d6_11) rfl kz) ?_
  show OG p e below Φ s₁ m 12 #[rv a, iv 0, rv b, iv 0, iv 2, iv 0, .unset] [(.int 0), (.ref a)]
  obtain ⟨cl1, Aq1, -, S1, M1, H1, -⟩ := id V_a
  have in1 : ¬ ((0 : Int32) < 0 ∨ cl1.slots.size ≤ (0 : Int32).toNatClampNeg) := inb_of S1 ⟨by decide, by decide⟩
  have at1 : cl1.slots[(0 : Int32).toNatClampNeg]? = some (.int c0_) := H1.at in1 rfl
  refine OGo.st (fun _ kz => X0.caload hx (by rw [e0]; exact Aq1.1) (State.isArrayOf_alike hZ.alike Aq1.2.1) Aq1.2.2 in1 at1 (g := (mkF m 12 #[rv a, iv 0, rv b, iv 0, iv 2, iv 0, .unset] [(.int 0), (.ref a)])) rfl rfl (hb hby d6_12) _ kz) ?_
  show OG p e below Φ s₁ m 13 #[rv a, iv 0, rv b, iv 0, iv 2, iv 0, .unset] [(.int c0_)]
  refine OGo.st (fun _ kz => XS.istore X0.here hx rfl (hb hby d6_13) rfl (l' := #[rv a, iv 0, rv b, iv 0, iv 2, iv 0, iv c0_]) rfl kz) ?_
  show OG p e below Φ s₁ m 15 #[rv a, iv 0, rv b, iv 0, iv 2, iv 0, iv c0_] []
  refine OGo.st (fun _ kz => XS.iload X0.here hx rfl (hb hby d6_15) rfl kz) ?_
  show OG p e below Φ s₁ m 17 #[rv a, iv 0, rv b, iv 0, iv 2, iv 0, iv c0_] [(.int c0_)]
  refine OGo.st (fun _ kz => XS.sipush X0.here hx rfl (hb hby d6_17) kz) ?_
  show OG p e below Φ s₁ m 20 #[rv a, iv 0, rv b, iv 0, iv 2, iv 0, iv c0_] [(.int 255), (.int c0_)]
  refine OGo.st (fun _ kz => XS.icmpYes X0.here hx rfl (pc0 := 20) (pc' := 26) rfl (hb hby d6_20) rfl (XT.ii_le_t hl0) (by decide) (by decide) kz) ?_
  show OG p e below Φ s₁ m 26 #[rv a, iv 0, rv b, iv 0, iv 2, iv 0, iv c0_] []
  refine OGo.st (fun _ kz => XS.aloadN X0.here hx rfl (hb hby d6_26) rfl rfl kz) ?_
  show OG p e below Φ s₁ m 27 #[rv a, iv 0, rv b, iv 0, iv 2, iv 0, iv c0_] [(.ref b)]
  refine OGo.st (fun _ kz => XS.iloadN X0.here hx rfl (hb hby d6_27) rfl kz) ?_
  show OG p e below Φ s₁ m 28 #[rv a, iv 0, rv b, iv 0, iv 2, iv 0, iv c0_] [(.int 0), (.ref b)]
  refine OGo.st (fun _ kz => XS.iload X0.here hx rfl (hb hby d6_28) rfl kz) ?_
  show OG p e below Φ s₁ m 30 #[rv a, iv 0, rv b, iv 0, iv 2, iv 0, iv c0_] [(.int c0_), (.int 0), (.ref b)]
  refine OGo.st (fun _ kz => XT.i2b X0.here hx rfl (hb hby d6_30) rfl kz) ?_
  show OG p e below Φ s₁ m 31 #[rv a, iv 0, rv b, iv 0, iv 2, iv 0, iv c0_] [(.int (c0_.toInt8.toInt32)), (.int 0), (.ref b)]
  obtain ⟨cl2, Aq2, Cq2, S2, M2, H2, G2⟩ := id V_b
  have in2 : ¬ ((0 : Int32) < 0 ∨ cl2.slots.size ≤ (0 : Int32).toNatClampNeg) := inb_of S2 ⟨by decide, by decide⟩
  obtain ⟨T2, h2, X2, e2, W2, st2⟩ := stB X0 hx hZ e0 Aq2 in2 (g := (mkF m 31 #[rv a, iv 0, rv b, iv 0, iv 2, iv 0, iv c0_] [(.int (c0_.toInt8.toInt32)), (.int 0), (.ref b)])) rfl rfl (hb hby d6_31)
  have W2 : Wr h0 h2 b (0 : Int32).toNatClampNeg (.int (nar .byte (c0_.toInt8.toInt32))) := W2
  have F3 := V_a.other W2 nab
  have V2 : Arv Z h2 b cb .byte (2 : Int32) [(.int (nar .byte (c0_.toInt8.toInt32))), (.int (0 : Int32))] (.int (0 : Int32)) := Arv.set Aq2 Cq2 S2 M2 H2 G2 (fits_nar_byte _) W2 0 (by decide) (by show 0 < 2; decide)
  have K2 := K0.wr W2 (Or.inl (List.mem_of_getElem? (i := 0) rfl))
  have N2 := Fr.snoc X2 N0 g_b
  have Zs2 : n0 ≤ h2.size := by rw [W2.size]; exact Z0
  refine OGo.st st2 ?_
  show OG p e below Φ T2 m 32 #[rv a, iv 0, rv b, iv 0, iv 2, iv 0, iv c0_] []
  refine OGo.st (fun _ kz => XS.iinc X2.here hx rfl (hb hby d6_32) rfl (l' := #[rv a, iv ((0 : Int32) + (1 : Int32)), rv b, iv 0, iv 2, iv 0, iv c0_]) rfl kz) ?_
  show OG p e below Φ T2 m 35 #[rv a, iv 1, rv b, iv 0, iv 2, iv 0, iv c0_] []
  refine OGo.st (fun _ kz => XS.iinc X2.here hx rfl (hb hby d6_35) rfl (l' := #[rv a, iv 1, rv b, iv ((0 : Int32) + (1 : Int32)), iv 2, iv 0, iv c0_]) rfl kz) ?_
  show OG p e below Φ T2 m 38 #[rv a, iv 1, rv b, iv 1, iv 2, iv 0, iv c0_] []
  refine OGo.st (fun _ kz => XS.iinc X2.here hx rfl (hb hby d6_38) rfl (l' := #[rv a, iv 1, rv b, iv 1, iv 2, iv ((0 : Int32) + (1 : Int32)), iv c0_]) rfl kz) ?_
  show OG p e below Φ T2 m 41 #[rv a, iv 1, rv b, iv 1, iv 2, iv 1, iv c0_] []
  refine OGo.st (fun _ kz => XS.goto X2.here hx rfl (pc0 := 41) (pc' := 3) rfl (hb hby d6_41) (by decide) (by decide) kz) ?_
  show OG p e below Φ T2 m 3 #[rv a, iv 1, rv b, iv 1, iv 2, iv 1, iv c0_] []
  refine OGo.st (fun _ kz => XS.iload X2.here hx rfl (hb hby d6_3) rfl kz) ?_
  show OG p e below Φ T2 m 5 #[rv a, iv 1, rv b, iv 1, iv 2, iv 1, iv c0_] [(.int 1)]
  refine OGo.st (fun _ kz => XS.iload X2.here hx rfl (hb hby d6_5) rfl kz) ?_
  show OG p e below Φ T2 m 7 #[rv a, iv 1, rv b, iv 1, iv 2, iv 1, iv c0_] [(.int 2), (.int 1)]
  refine OGo.st (fun _ kz => XS.icmpNo X2.here hx rfl (hb hby d6_7) rfl (XT.ii_ge_f (by decide)) kz) ?_
  show OG p e below Φ T2 m 10 #[rv a, iv 1, rv b, iv 1, iv 2, iv 1, iv c0_] []
  refine OGo.st (fun _ kz => XS.aloadN X2.here hx rfl (hb hby d6_10) rfl rfl kz) ?_
  show OG p e below Φ T2 m 11 #[rv a, iv 1, rv b, iv 1, iv 2, iv 1, iv c0_] [(.ref a)]
  refine OGo.st (fun _ kz => XS.iloadN X2.here hx rfl (hb hby d6_11) rfl kz) ?_
  show OG p e below Φ T2 m 12 #[rv a, iv 1, rv b, iv 1, iv 2, iv 1, iv c0_] [(.int 1), (.ref a)]
  obtain ⟨cl4, Aq4, -, S4, M4, H4, -⟩ := id F3
  have in4 : ¬ ((1 : Int32) < 0 ∨ cl4.slots.size ≤ (1 : Int32).toNatClampNeg) := inb_of S4 ⟨by decide, by decide⟩
  have at4 : cl4.slots[(1 : Int32).toNatClampNeg]? = some (.int c1_) := H4.at in4 rfl
  refine OGo.st (fun _ kz => X2.caload hx (by rw [e2]; exact Aq4.1) (State.isArrayOf_alike hZ.alike Aq4.2.1) Aq4.2.2 in4 at4 (g := (mkF m 12 #[rv a, iv 1, rv b, iv 1, iv 2, iv 1, iv c0_] [(.int 1), (.ref a)])) rfl rfl (hb hby d6_12) _ kz) ?_
  show OG p e below Φ T2 m 13 #[rv a, iv 1, rv b, iv 1, iv 2, iv 1, iv c0_] [(.int c1_)]
  refine OGo.st (fun _ kz => XS.istore X2.here hx rfl (hb hby d6_13) rfl (l' := #[rv a, iv 1, rv b, iv 1, iv 2, iv 1, iv c1_]) rfl kz) ?_
  show OG p e below Φ T2 m 15 #[rv a, iv 1, rv b, iv 1, iv 2, iv 1, iv c1_] []
  refine OGo.st (fun _ kz => XS.iload X2.here hx rfl (hb hby d6_15) rfl kz) ?_
  show OG p e below Φ T2 m 17 #[rv a, iv 1, rv b, iv 1, iv 2, iv 1, iv c1_] [(.int c1_)]
  refine OGo.st (fun _ kz => XS.sipush X2.here hx rfl (hb hby d6_17) kz) ?_
  show OG p e below Φ T2 m 20 #[rv a, iv 1, rv b, iv 1, iv 2, iv 1, iv c1_] [(.int 255), (.int c1_)]
  refine OGo.st (fun _ kz => XS.icmpYes X2.here hx rfl (pc0 := 20) (pc' := 26) rfl (hb hby d6_20) rfl (XT.ii_le_t hl1) (by decide) (by decide) kz) ?_
  show OG p e below Φ T2 m 26 #[rv a, iv 1, rv b, iv 1, iv 2, iv 1, iv c1_] []
  refine OGo.st (fun _ kz => XS.aloadN X2.here hx rfl (hb hby d6_26) rfl rfl kz) ?_
  show OG p e below Φ T2 m 27 #[rv a, iv 1, rv b, iv 1, iv 2, iv 1, iv c1_] [(.ref b)]
  refine OGo.st (fun _ kz => XS.iloadN X2.here hx rfl (hb hby d6_27) rfl kz) ?_
  show OG p e below Φ T2 m 28 #[rv a, iv 1, rv b, iv 1, iv 2, iv 1, iv c1_] [(.int 1), (.ref b)]
  refine OGo.st (fun _ kz => XS.iload X2.here hx rfl (hb hby d6_28) rfl kz) ?_
  show OG p e below Φ T2 m 30 #[rv a, iv 1, rv b, iv 1, iv 2, iv 1, iv c1_] [(.int c1_), (.int 1), (.ref b)]
  refine OGo.st (fun _ kz => XT.i2b X2.here hx rfl (hb hby d6_30) rfl kz) ?_
  show OG p e below Φ T2 m 31 #[rv a, iv 1, rv b, iv 1, iv 2, iv 1, iv c1_] [(.int (c1_.toInt8.toInt32)), (.int 1), (.ref b)]
  obtain ⟨cl5, Aq5, Cq5, S5, M5, H5, G5⟩ := id V2
  have in5 : ¬ ((1 : Int32) < 0 ∨ cl5.slots.size ≤ (1 : Int32).toNatClampNeg) := inb_of S5 ⟨by decide, by decide⟩
  obtain ⟨T5, h5, X5, e5, W5, st5⟩ := stB X2 hx hZ e2 Aq5 in5 (g := (mkF m 31 #[rv a, iv 1, rv b, iv 1, iv 2, iv 1, iv c1_] [(.int (c1_.toInt8.toInt32)), (.int 1), (.ref b)])) rfl rfl (hb hby d6_31)
  have W5 : Wr h2 h5 b (1 : Int32).toNatClampNeg (.int (nar .byte (c1_.toInt8.toInt32))) := W5
  have F6 := F3.other W5 nab
  have V5 : Arv Z h5 b cb .byte (2 : Int32) [(.int (nar .byte (c0_.toInt8.toInt32))), (.int (nar .byte (c1_.toInt8.toInt32)))] (.int (0 : Int32)) := Arv.set Aq5 Cq5 S5 M5 H5 G5 (fits_nar_byte _) W5 1 (by decide) (by show 1 < 2; decide)
  have K5 := K2.wr W5 (Or.inl (List.mem_of_getElem? (i := 0) rfl))
  have N5 := Fr.snoc X5 N2 g_b
  have Zs5 : n0 ≤ h5.size := by rw [W5.size]; exact Zs2
  refine OGo.st st5 ?_
  show OG p e below Φ T5 m 32 #[rv a, iv 1, rv b, iv 1, iv 2, iv 1, iv c1_] []
  refine OGo.st (fun _ kz => XS.iinc X5.here hx rfl (hb hby d6_32) rfl (l' := #[rv a, iv ((1 : Int32) + (1 : Int32)), rv b, iv 1, iv 2, iv 1, iv c1_]) rfl kz) ?_
  show OG p e below Φ T5 m 35 #[rv a, iv 2, rv b, iv 1, iv 2, iv 1, iv c1_] []
  refine OGo.st (fun _ kz => XS.iinc X5.here hx rfl (hb hby d6_35) rfl (l' := #[rv a, iv 2, rv b, iv ((1 : Int32) + (1 : Int32)), iv 2, iv 1, iv c1_]) rfl kz) ?_
  show OG p e below Φ T5 m 38 #[rv a, iv 2, rv b, iv 2, iv 2, iv 1, iv c1_] []
  refine OGo.st (fun _ kz => XS.iinc X5.here hx rfl (hb hby d6_38) rfl (l' := #[rv a, iv 2, rv b, iv 2, iv 2, iv ((1 : Int32) + (1 : Int32)), iv c1_]) rfl kz) ?_
  show OG p e below Φ T5 m 41 #[rv a, iv 2, rv b, iv 2, iv 2, iv 2, iv c1_] []
  refine OGo.st (fun _ kz => XS.goto X5.here hx rfl (pc0 := 41) (pc' := 3) rfl (hb hby d6_41) (by decide) (by decide) kz) ?_
  show OG p e below Φ T5 m 3 #[rv a, iv 2, rv b, iv 2, iv 2, iv 2, iv c1_] []
  refine OGo.st (fun _ kz => XS.iload X5.here hx rfl (hb hby d6_3) rfl kz) ?_
  show OG p e below Φ T5 m 5 #[rv a, iv 2, rv b, iv 2, iv 2, iv 2, iv c1_] [(.int 2)]
  refine OGo.st (fun _ kz => XS.iload X5.here hx rfl (hb hby d6_5) rfl kz) ?_
  show OG p e below Φ T5 m 7 #[rv a, iv 2, rv b, iv 2, iv 2, iv 2, iv c1_] [(.int 2), (.int 2)]
  refine OGo.st (fun _ kz => XS.icmpYes X5.here hx rfl (pc0 := 7) (pc' := 44) rfl (hb hby d6_7) rfl (XT.ii_ge_t (by decide)) (by decide) (by decide) kz) ?_
  show OG p e below Φ T5 m 44 #[rv a, iv 2, rv b, iv 2, iv 2, iv 2, iv c1_] []
  refine OGo.st (fun _ kz => XS.iload X5.here hx rfl (hb hby d6_44) rfl kz) ?_
  show OG p e below Φ T5 m 46 #[rv a, iv 2, rv b, iv 2, iv 2, iv 2, iv c1_] [(.int 2)]
  refine OGo.fin X5 hlk (v := (some (.int 2))) (fun h => by rw [hret] at h; cases h) (by decide) (by decide) (fun fs hr => X5.ireturnOut hx hret rfl (by simp) (hb hby d6_46) hr) fun U eU hF => hΦ _ _ _ ?_ hF
  rw [eU, e5]
  show Q_rs2c2 Z a ca b cb c0_ c1_ h0 n0 _ _ _
  exact ⟨rfl, N5, K5, V5⟩

theorem d5_0 : decode jdk_52_method_16_code 0 = .ok (.iload_n 2, 1) := by decide +kernel
theorem d5_1 : decode jdk_52_method_16_code 1 = .ok (.newarray .byte, 2) := by decide +kernel
theorem d5_3 : decode jdk_52_method_16_code 3 = .ok (.astore_n 3, 1) := by decide +kernel
theorem d5_4 : decode jdk_52_method_16_code 4 = .ok (.aload_n 0, 1) := by decide +kernel
theorem d5_5 : decode jdk_52_method_16_code 5 = .ok (.iload_n 1, 1) := by decide +kernel
theorem d5_6 : decode jdk_52_method_16_code 6 = .ok (.aload_n 3, 1) := by decide +kernel
theorem d5_7 : decode jdk_52_method_16_code 7 = .ok (.iconst 0, 1) := by decide +kernel
theorem d5_8 : decode jdk_52_method_16_code 8 = .ok (.iload_n 2, 1) := by decide +kernel
theorem d5_9 : decode jdk_52_method_16_code 9 = .ok (.invokestatic 115, 3) := by decide +kernel
theorem pd1 : parseMethodDescriptor "([CI[BII)I" = some ⟨[(.array .char), .int, (.array .byte), .int, .int], some .int⟩ := by decide +kernel
theorem d5_12 : decode jdk_52_method_16_code 12 = .ok (.istore 4, 2) := by decide +kernel
theorem d5_14 : decode jdk_52_method_16_code 14 = .ok (.iload 4, 2) := by decide +kernel
theorem d5_16 : decode jdk_52_method_16_code 16 = .ok (.iload_n 2, 1) := by decide +kernel
theorem d5_17 : decode jdk_52_method_16_code 17 = .ok (.if_icmp .eq 40, 3) := by decide +kernel
theorem d5_57 : decode jdk_52_method_16_code 57 = .ok (.aload_n 3, 1) := by decide +kernel
theorem d5_58 : decode jdk_52_method_16_code 58 = .ok (.areturn, 1) := by decide +kernel
theorem ef_rs2c3 (m : MethodId) (x0 : Addr) (x1 : Int32) (x2 : Int32) : entryFrame m #[(.ref x0), (.int x1), (.int x2)] 6 = mkF m 0 #[.val (.ref x0), .val (.int x1), .val (.int x2), .unset, .unset, .unset] [] := by first | (simp [entryFrame, mkF, argsToLocals, Value.category]; done) | rfl
def Q_rs2c3 (Z : State) (a : Addr) (ca : ClassId) (c0_ : Int32) (c1_ : Int32) (h0 : Heap) (n0 : Nat) (v : Option Value) (h : Heap) (L : List Loc) : Prop := ∃ b cb, v = some (.ref b) ∧ Fr n0 L ∧ Keep h0 h [] ∧ Arv Z h b cb .byte (2 : Int32) [(.int (nar .byte (c0_.toInt8.toInt32))), (.int (nar .byte (c1_.toInt8.toInt32)))] (.int (0 : Int32)) ∧ h0.size ≤ b
set_option maxRecDepth 65536 in
set_option maxHeartbeats 40000000 in
theorem rs2c3 (l : Launch) (Z : State) (a0 : Array Value) (hw : ∀ d ∈ tables_1, d.before a0 Z = true) (ws : List Jvm.Cond) (a : Addr) (ca : ClassId) (c0_ : Int32) (c1_ : Int32) (h0 : Heap) (n0 : Nat) (Z0 : n0 ≤ h0.size) (V_a : Arv Z h0 a ca .char (2 : Int32) [(.int c0_), (.int c1_)] (.int (0 : Int32))) (hl0 : ¬ (255 : Int32) < c0_) (hl1 : ¬ (255 : Int32) < c1_) :
    OCon l Z (⟨"java/lang/StringUTF16", "compress", "([CII)[B"⟩ : MethodName) jdk_52_method_16_code 6 (some (.array .byte)) ws ({ frames := 1, cells := 1, slots := 2, locals := 18 } : Room) #[(.ref a), (.int (0 : Int32)), (.int (2 : Int32))] h0 (Q_rs2c3 Z a ca c0_ c1_ h0 n0) := by
  refine OCon.of (plainFor_of_name pn3) ?_
  intro p e s m below meth c s₁ Φ X0 hx hby hml hown hnm hret hlk hZ e0 hΦ
  have N0 := Fr.nil n0
  refine OGo.st (fun _ kz => castTop (ef_rs2c3 m a (0 : Int32) (2 : Int32)) kz) ?_
  have K0 := Keep.refl h0 []
  show OG p e below Φ s₁ m 0 #[rv a, iv 0, iv 2, .unset, .unset, .unset] []
  refine OGo.st (fun _ kz => XS.iloadN X0.here hx rfl (hb hby d5_0) rfl kz) ?_
  show OG p e below Φ s₁ m 1 #[rv a, iv 0, iv 2, .unset, .unset, .unset] [(.int 2)]
  obtain ⟨T1, h1, c1, X1, e1, E1, Ar1, st1⟩ := newP (aty := .byte) X0 hx hZ (ow0 hw) e0 (g := (mkF m 1 #[rv a, iv 0, iv 2, .unset, .unset, .unset] [(.int 2)])) rfl (hb hby d5_1) rfl (by decide) (cap := 2) (by decide) (by decide) (by decide) (by decide)
  obtain ⟨b1, g1⟩ : ∃ z, z = h0.size := ⟨_, rfl⟩
  rw [← g1] at Ar1 st1
  have ne1_a : a ≠ b1 := by rw [g1]; exact Nat.ne_of_lt V_a.lt
  have F2 := V_a.ext E1
  have gb1 : n0 ≤ b1 := Nat.le_trans Z0 (Nat.le_of_eq g1.symm)
  have sz1 : h0.size ≤ b1 := Nat.le_trans K0.1 (Nat.le_of_eq g1.symm)
  have K1 := K0.ext E1
  have Zs1 : n0 ≤ h1.size := Nat.le_trans Z0 E1.1
  have V1 : Arv Z h1 b1 c1 .byte (2 : Int32) [(.int (0 : Int32)), (.int (0 : Int32))] (.int (0 : Int32)) := (Arv.new Ar1 (by decide)).pad (pad_rep [] _ 2)
  refine OGo.st st1 ?_
  show OG p e below Φ T1 m 3 #[rv a, iv 0, iv 2, .unset, .unset, .unset] [(.ref b1)]
  refine OGo.st (fun _ kz => XS.astoreN X1.here hx rfl (hb hby d5_3) rfl rfl (l' := #[rv a, iv 0, iv 2, rv b1, .unset, .unset]) rfl kz) ?_
  show OG p e below Φ T1 m 4 #[rv a, iv 0, iv 2, rv b1, .unset, .unset] []
  refine OGo.st (fun _ kz => XS.aloadN X1.here hx rfl (hb hby d5_4) rfl rfl kz) ?_
  show OG p e below Φ T1 m 5 #[rv a, iv 0, iv 2, rv b1, .unset, .unset] [(.ref a)]
  refine OGo.st (fun _ kz => XS.iloadN X1.here hx rfl (hb hby d5_5) rfl kz) ?_
  show OG p e below Φ T1 m 6 #[rv a, iv 0, iv 2, rv b1, .unset, .unset] [(.int 0), (.ref a)]
  refine OGo.st (fun _ kz => XS.aloadN X1.here hx rfl (hb hby d5_6) rfl rfl kz) ?_
  show OG p e below Φ T1 m 7 #[rv a, iv 0, iv 2, rv b1, .unset, .unset] [(.ref b1), (.int 0), (.ref a)]
  refine OGo.st (fun _ kz => XS.iconst X1.here hx rfl (hb hby d5_7) kz) ?_
  show OG p e below Φ T1 m 8 #[rv a, iv 0, iv 2, rv b1, .unset, .unset] [(.int 0), (.ref b1), (.int 0), (.ref a)]
  refine OGo.st (fun _ kz => XS.iloadN X1.here hx rfl (hb hby d5_8) rfl kz) ?_
  show OG p e below Φ T1 m 9 #[rv a, iv 0, iv 2, rv b1, .unset, .unset] [(.int 2), (.int 0), (.ref b1), (.int 0), (.ref a)]
  obtain ⟨_, T3, L3, X3, hQ3, st3⟩ := own_callSt X1 hx hZ hown (ow24 hw) (ow25 hw) (ow22 hw) (ow26 hw) (by decide) (rs2c2 l Z a0 hw [] a ca b1 c1 c0_ c1_ h1 n0 Zs1 F2 V1 ne1_a gb1 hl0 hl1) e1 (W := 0) (by decide) (by decide) (by decide) (by decide) (pc := 9) (ls := #[rv a, iv 0, iv 2, rv b1, .unset, .unset]) (stk := [(.int 2), (.int 0), (.ref b1), (.int 0), (.ref a)]) (by rw [hml]; rfl) (argsL := [(.ref a), (.int 0), (.ref b1), (.int 0), (.int 2)]) (rest := []) (lenOf pd1 rfl) rfl rfl (Nat.le_of_eq rfl) (hb hby d5_9)
  obtain ⟨rfl, Nq3, Kq3, Vq3⟩ := hQ3
  have N3 := Fr.app N0 Nq3
  have Zs3 : n0 ≤ T3.heap.size := Nat.le_trans Zs1 Kq3.1
  have F4 := F2.keep Kq3 (ninS ne1_a nin0)
  have K3 := K1.trans Kq3 (allS (Or.inr sz1) all0)
  refine OGo.st st3 ?_
  show OG p e below Φ T3 m 12 #[rv a, iv 0, iv 2, rv b1, .unset, .unset] [(.int 2)]
  refine OGo.st (fun _ kz => XS.istore X3.here hx rfl (hb hby d5_12) rfl (l' := #[rv a, iv 0, iv 2, rv b1, iv 2, .unset]) rfl kz) ?_
  show OG p e below Φ T3 m 14 #[rv a, iv 0, iv 2, rv b1, iv 2, .unset] []
  refine OGo.st (fun _ kz => XS.iload X3.here hx rfl (hb hby d5_14) rfl kz) ?_
  show OG p e below Φ T3 m 16 #[rv a, iv 0, iv 2, rv b1, iv 2, .unset] [(.int 2)]
  refine OGo.st (fun _ kz => XS.iloadN X3.here hx rfl (hb hby d5_16) rfl kz) ?_
  show OG p e below Φ T3 m 17 #[rv a, iv 0, iv 2, rv b1, iv 2, .unset] [(.int 2), (.int 2)]
  refine OGo.st (fun _ kz => XS.icmpYes X3.here hx rfl (pc0 := 17) (pc' := 57) rfl (hb hby d5_17) rfl (XT.ii_eq_t (by decide)) (by decide) (by decide) kz) ?_
  show OG p e below Φ T3 m 57 #[rv a, iv 0, iv 2, rv b1, iv 2, .unset] []
  refine OGo.st (fun _ kz => XS.aloadN X3.here hx rfl (hb hby d5_57) rfl rfl kz) ?_
  show OG p e below Φ T3 m 58 #[rv a, iv 0, iv 2, rv b1, iv 2, .unset] [(.ref b1)]
  refine OGo.fin X3 hlk (v := (some (.ref b1))) (fun h => by rw [hret] at h; cases h) (by decide) (by decide) (fun fs hr => X3.areturnOut hx rfl hret rfl (hb hby d5_58) hr) fun U eU hF => hΦ _ _ _ ?_ hF
  rw [eU]
  show Q_rs2c3 Z a ca c0_ c1_ h0 n0 _ _ _
  exact ⟨_, _, rfl, N3, K3, Vq3, sz1⟩

theorem d7_0 : decode jdk_52_method_15_code 0 = .ok (.iload_n 1, 1) := by decide +kernel
theorem d7_1 : decode jdk_52_method_15_code 1 = .ok (.aload_n 0, 1) := by decide +kernel
theorem d7_2 : decode jdk_52_method_15_code 2 = .ok (.arraylength, 1) := by decide +kernel
theorem d7_3 : decode jdk_52_method_15_code 3 = .ok (.isub, 1) := by decide +kernel
theorem d7_4 : decode jdk_52_method_15_code 4 = .ok (.bipush 31, 2) := by decide +kernel
theorem d7_6 : decode jdk_52_method_15_code 6 = .ok (.iushr, 1) := by decide +kernel
theorem d7_7 : decode jdk_52_method_15_code 7 = .ok (.i2b, 1) := by decide +kernel
theorem d7_8 : decode jdk_52_method_15_code 8 = .ok (.ireturn, 1) := by decide +kernel
theorem ef_rs2cf (m : MethodId) (x0 : Addr) (x1 : Int32) : entryFrame m #[(.ref x0), (.int x1)] 2 = mkF m 0 #[.val (.ref x0), .val (.int x1)] [] := by first | (simp [entryFrame, mkF, argsToLocals, Value.category]; done) | rfl
def Q_rs2cf (Z : State) (b : Addr) (cb : ClassId) (c0_ : Int32) (c1_ : Int32) (h0 : Heap) (n0 : Nat) (v : Option Value) (h : Heap) (L : List Loc) : Prop := v = some (.int (0 : Int32)) ∧ Fr n0 L ∧ h = h0
set_option maxRecDepth 65536 in
set_option maxHeartbeats 40000000 in
theorem rs2cf (l : Launch) (Z : State) (a0 : Array Value) (hw : ∀ d ∈ tables_1, d.before a0 Z = true) (ws : List Jvm.Cond) (b : Addr) (cb : ClassId) (c0_ : Int32) (c1_ : Int32) (h0 : Heap) (n0 : Nat) (Z0 : n0 ≤ h0.size) (V_b : Arv Z h0 b cb .byte (2 : Int32) [(.int (nar .byte (c0_.toInt8.toInt32))), (.int (nar .byte (c1_.toInt8.toInt32)))] (.int (0 : Int32))) :
    OCon l Z (⟨"java/lang/StringUTF16", "coderFromArrayLen", "([BI)B"⟩ : MethodName) jdk_52_method_15_code 2 (some .byte) ws ({ frames := 0, cells := 0, slots := 0, locals := 0 } : Room) #[(.ref b), (.int (2 : Int32))] h0 (Q_rs2cf Z b cb c0_ c1_ h0 n0) := by
  refine OCon.of (plainFor_of_name pn3) ?_
  intro p e s m below meth c s₁ Φ X0 hx hby hml hown hnm hret hlk hZ e0 hΦ
  have N0 := Fr.nil n0
  refine OGo.st (fun _ kz => castTop (ef_rs2cf m b (2 : Int32)) kz) ?_
  show OG p e below Φ s₁ m 0 #[rv b, iv 2] []
  refine OGo.st (fun _ kz => XS.iloadN X0.here hx rfl (hb hby d7_0) rfl kz) ?_
  show OG p e below Φ s₁ m 1 #[rv b, iv 2] [(.int 2)]
  refine OGo.st (fun _ kz => XS.aloadN X0.here hx rfl (hb hby d7_1) rfl rfl kz) ?_
  show OG p e below Φ s₁ m 2 #[rv b, iv 2] [(.ref b), (.int 2)]
  obtain ⟨cl1, Aq1, -, S1, M1, -, -⟩ := id V_b
  refine OGo.st (fun _ kz => X0.arraylength hx (by rw [e0]; exact Aq1.1) (State.isArrayOf_alike hZ.alike Aq1.2.1) (g := (mkF m 2 #[rv b, iv 2] [(.ref b), (.int 2)])) rfl rfl (hb hby d7_2) _ kz) ?_
  rw [len_of S1 M1]
  show OG p e below Φ s₁ m 3 #[rv b, iv 2] [(.int 2), (.int 2)]
  refine OGo.st (fun _ kz => XS.isub X0.here hx rfl (hb hby d7_3) rfl kz) ?_
  show OG p e below Φ s₁ m 4 #[rv b, iv 2] [(.int 0)]
  refine OGo.st (fun _ kz => XS.bipush X0.here hx rfl (hb hby d7_4) kz) ?_
  show OG p e below Φ s₁ m 6 #[rv b, iv 2] [(.int 31), (.int 0)]
  refine OGo.st (fun _ kz => XT.iushr X0.here hx rfl (hb hby d7_6) rfl kz) ?_
  show OG p e below Φ s₁ m 7 #[rv b, iv 2] [(.int 0)]
  refine OGo.st (fun _ kz => XT.i2b X0.here hx rfl (hb hby d7_7) rfl kz) ?_
  show OG p e below Φ s₁ m 8 #[rv b, iv 2] [(.int 0)]
  refine OGo.fin X0 hlk (v := (some (.int 0))) (fun h => by rw [hret] at h; cases h) (by decide) (by decide) (fun fs hr => X0.ireturnOut hx hret rfl (by simp) (hb hby d7_8) hr) fun U eU hF => hΦ _ _ _ ?_ hF
  rw [eU, e0]
  show Q_rs2cf Z b cb c0_ c1_ h0 n0 _ _ _
  exact ⟨rfl, N0, rfl⟩

theorem d3_0 : decode jdk_42_method_149_code 0 = .ok (.aload_n 0, 1) := by decide +kernel
theorem d3_1 : decode jdk_42_method_149_code 1 = .ok (.invokespecial 1, 3) := by decide +kernel
theorem d3_4 : decode jdk_42_method_149_code 4 = .ok (.iload_n 3, 1) := by decide +kernel
theorem d3_5 : decode jdk_42_method_149_code 5 = .ok (.ifCond .ne 22, 3) := by decide +kernel
theorem d3_27 : decode jdk_42_method_149_code 27 = .ok (.getstatic 38, 3) := by decide +kernel
theorem d3_30 : decode jdk_42_method_149_code 30 = .ok (.ifCond .eq 28, 3) := by decide +kernel
theorem d3_33 : decode jdk_42_method_149_code 33 = .ok (.aload_n 1, 1) := by decide +kernel
theorem d3_34 : decode jdk_42_method_149_code 34 = .ok (.iload_n 2, 1) := by decide +kernel
theorem d3_35 : decode jdk_42_method_149_code 35 = .ok (.iload_n 3, 1) := by decide +kernel
theorem d3_36 : decode jdk_42_method_149_code 36 = .ok (.invokestatic 177, 3) := by decide +kernel
theorem pd2 : parseMethodDescriptor "([CII)[B" = some ⟨[(.array .char), .int, .int], some (.array .byte)⟩ := by decide +kernel
theorem d3_39 : decode jdk_42_method_149_code 39 = .ok (.astore 5, 2) := by decide +kernel
theorem d3_41 : decode jdk_42_method_149_code 41 = .ok (.aload_n 0, 1) := by decide +kernel
theorem d3_42 : decode jdk_42_method_149_code 42 = .ok (.aload 5, 2) := by decide +kernel
theorem d3_44 : decode jdk_42_method_149_code 44 = .ok (.iload_n 3, 1) := by decide +kernel
theorem d3_45 : decode jdk_42_method_149_code 45 = .ok (.invokestatic 47, 3) := by decide +kernel
theorem pd3 : parseMethodDescriptor "([BI)B" = some ⟨[(.array .byte), .int], some .byte⟩ := by decide +kernel
theorem d3_48 : decode jdk_42_method_149_code 48 = .ok (.putfield 15, 3) := by decide +kernel
theorem d3_51 : decode jdk_42_method_149_code 51 = .ok (.aload_n 0, 1) := by decide +kernel
theorem d3_52 : decode jdk_42_method_149_code 52 = .ok (.aload 5, 2) := by decide +kernel
theorem d3_54 : decode jdk_42_method_149_code 54 = .ok (.putfield 9, 3) := by decide +kernel
theorem d3_57 : decode jdk_42_method_149_code 57 = .ok (.return_, 1) := by decide +kernel
theorem ef_rs2i4 (m : MethodId) (x0 : Addr) (x1 : Addr) (x2 : Int32) (x3 : Int32) : entryFrame m #[(.ref x0), (.ref x1), (.int x2), (.int x3), .null] 6 = mkF m 0 #[.val (.ref x0), .val (.ref x1), .val (.int x2), .val (.int x3), .val .null, .unset] [] := by first | (simp [entryFrame, mkF, argsToLocals, Value.category]; done) | rfl
def Q_rs2i4 (Z : State) (s_ : Addr) (a : Addr) (ca : ClassId) (qc : Int32) (c0_ : Int32) (c1_ : Int32) (h0 : Heap) (n0 : Nat) (v : Option Value) (h : Heap) (L : List Loc) : Prop := v = none ∧ Fr n0 L ∧ Keep h0 h [s_] ∧ Exa Z h s_ "java/lang/String" ∧ ∃ b cb, Fld Z h s_ "java/lang/String" "value" "[B" (.ref b) ∧ Fld Z h s_ "java/lang/String" "coder" "B" (.int (0 : Int32)) ∧ Arv Z h b cb .byte (2 : Int32) [(.int (nar .byte (c0_.toInt8.toInt32))), (.int (nar .byte (c1_.toInt8.toInt32)))] (.int (0 : Int32)) ∧ h0.size ≤ b
set_option maxRecDepth 65536 in
set_option maxHeartbeats 40000000 in
theorem rs2i4 (l : Launch) (Z : State) (a0 : Array Value) (hw : ∀ d ∈ tables_1, d.before a0 Z = true) (ws : List Jvm.Cond) (s_ : Addr) (a : Addr) (ca : ClassId) (qc : Int32) (c0_ : Int32) (c1_ : Int32) (h0 : Heap) (n0 : Nat) (Z0 : n0 ≤ h0.size) (E_s : Exa Z h0 s_ "java/lang/String") (g_s : n0 ≤ s_) (F_v : Fld Z h0 s_ "java/lang/String" "value" "[B" .null) (F_c : Fld Z h0 s_ "java/lang/String" "coder" "B" (.int (0 : Int32))) (V_a : Arv Z h0 a ca .char (2 : Int32) [(.int c0_), (.int c1_)] (.int (0 : Int32))) (nsa : s_ ≠ a) (S_q : Sta Z h0 "java/lang/String" "COMPACT_STRINGS" "Z" (.int qc)) (hq : ¬ qc = 0) (hl0 : ¬ (255 : Int32) < c0_) (hl1 : ¬ (255 : Int32) < c1_) :
    OCon l Z (⟨"java/lang/String", "<init>", "([CIILjava/lang/Void;)V"⟩ : MethodName) jdk_42_method_149_code 6 none ws ({ frames := 2, cells := 1, slots := 2, locals := 35 } : Room) #[(.ref s_), (.ref a), (.int (0 : Int32)), (.int (2 : Int32)), .null] h0 (Q_rs2i4 Z s_ a ca qc c0_ c1_ h0 n0) := by
  refine OCon.of (plainFor_of_name pn0) ?_
  intro p e s m below meth c s₁ Φ X0 hx hby hml hown hnm hret hlk hZ e0 hΦ
  have N0 := Fr.nil n0
  refine OGo.st (fun _ kz => castTop (ef_rs2i4 m s_ a (0 : Int32) (2 : Int32)) kz) ?_
  have K0 := Keep.refl h0 [s_]
  show OG p e below Φ s₁ m 0 #[rv s_, rv a, iv 0, iv 2, .val .null, .unset] []
  refine OGo.st (fun _ kz => XS.aloadN X0.here hx rfl (hb hby d3_0) rfl rfl kz) ?_
  show OG p e below Φ s₁ m 1 #[rv s_, rv a, iv 0, iv 2, .val .null, .unset] [(.ref s_)]
  obtain ⟨T1, X1, e1, st1⟩ := initO X0 hx hZ hown (ow16 hw) (ow17 hw) (ow18 hw) e0 (g := (mkF m 1 #[rv s_, rv a, iv 0, iv 2, .val .null, .unset] [(.ref s_)])) rfl (by rw [hml]; rfl) rfl (hb hby d3_1) (by decide) (W := 0) (Nat.le_of_eq rfl) (by decide)
  refine OGo.st st1 ?_
  show OG p e below Φ T1 m 4 #[rv s_, rv a, iv 0, iv 2, .val .null, .unset] []
  refine OGo.st (fun _ kz => XS.iloadN X1.here hx rfl (hb hby d3_4) rfl kz) ?_
  show OG p e below Φ T1 m 5 #[rv s_, rv a, iv 0, iv 2, .val .null, .unset] [(.int 2)]
  refine OGo.st (fun _ kz => XS.ifYes X1.here hx rfl (pc0 := 5) (pc' := 27) rfl (hb hby d3_5) rfl (XT.i0_ne_t (by decide)) (by decide) (by decide) kz) ?_
  show OG p e below Φ T1 m 27 #[rv s_, rv a, iv 0, iv 2, .val .null, .unset] []
  obtain ⟨T2, X2, e2, st2⟩ := getS2 X1 hx hZ hown (host := "") (Or.inl (ow19 hw)) Via.refl e1 S_q (g := (mkF m 27 #[rv s_, rv a, iv 0, iv 2, .val .null, .unset] [])) rfl (hb hby d3_27)
  refine OGo.st st2 ?_
  show OG p e below Φ T2 m 30 #[rv s_, rv a, iv 0, iv 2, .val .null, .unset] [(.int qc)]
  refine OGo.st (fun _ kz => XS.ifNo X2.here hx rfl (hb hby d3_30) rfl (XT.i0_eq_f hq) kz) ?_
  show OG p e below Φ T2 m 33 #[rv s_, rv a, iv 0, iv 2, .val .null, .unset] []
  refine OGo.st (fun _ kz => XS.aloadN X2.here hx rfl (hb hby d3_33) rfl rfl kz) ?_
  show OG p e below Φ T2 m 34 #[rv s_, rv a, iv 0, iv 2, .val .null, .unset] [(.ref a)]
  refine OGo.st (fun _ kz => XS.iloadN X2.here hx rfl (hb hby d3_34) rfl kz) ?_
  show OG p e below Φ T2 m 35 #[rv s_, rv a, iv 0, iv 2, .val .null, .unset] [(.int 0), (.ref a)]
  refine OGo.st (fun _ kz => XS.iloadN X2.here hx rfl (hb hby d3_35) rfl kz) ?_
  show OG p e below Φ T2 m 36 #[rv s_, rv a, iv 0, iv 2, .val .null, .unset] [(.int 2), (.int 0), (.ref a)]
  obtain ⟨_, T3, L3, X3, hQ3, st3⟩ := own_callSt X2 hx hZ hown (ow20 hw) (ow21 hw) (ow22 hw) (ow23 hw) (by decide) (rs2c3 l Z a0 hw [] a ca c0_ c1_ h0 n0 Z0 V_a hl0 hl1) e2 (W := 0) (by decide) (by decide) (by decide) (by decide) (pc := 36) (ls := #[rv s_, rv a, iv 0, iv 2, .val .null, .unset]) (stk := [(.int 2), (.int 0), (.ref a)]) (by rw [hml]; rfl) (argsL := [(.ref a), (.int 0), (.int 2)]) (rest := []) (lenOf pd2 rfl) rfl rfl (Nat.le_of_eq rfl) (hb hby d3_36)
  obtain ⟨b3, cb3, rfl, Nq3, Kq3, Vq3, hz3⟩ := hQ3
  have nq3_a : a ≠ b3 := Nat.ne_of_lt (Nat.lt_of_lt_of_le V_a.lt hz3)
  have nq3_s_ : s_ ≠ b3 := Nat.ne_of_lt (Nat.lt_of_lt_of_le E_s.lt hz3)
  have gq3 : n0 ≤ b3 := Nat.le_trans Z0 hz3
  have sq3 : h0.size ≤ b3 := Nat.le_trans K0.1 hz3
  have N3 := Fr.app N0 Nq3
  have Zs3 : n0 ≤ T3.heap.size := Nat.le_trans Z0 Kq3.1
  have F4 := E_s.keep Kq3
  have F5 := F_v.keep Kq3 nin0
  have F6 := F_c.keep Kq3 nin0
  have F7 := V_a.keep Kq3 nin0
  have K3 := K0.trans Kq3 all0
  refine OGo.st st3 ?_
  show OG p e below Φ T3 m 39 #[rv s_, rv a, iv 0, iv 2, .val .null, .unset] [(.ref b3)]
  refine OGo.st (fun _ kz => XS.astore X3.here hx rfl (hb hby d3_39) rfl rfl (l' := #[rv s_, rv a, iv 0, iv 2, .val .null, rv b3]) rfl kz) ?_
  show OG p e below Φ T3 m 41 #[rv s_, rv a, iv 0, iv 2, .val .null, rv b3] []
  refine OGo.st (fun _ kz => XS.aloadN X3.here hx rfl (hb hby d3_41) rfl rfl kz) ?_
  show OG p e below Φ T3 m 42 #[rv s_, rv a, iv 0, iv 2, .val .null, rv b3] [(.ref s_)]
  refine OGo.st (fun _ kz => XS.aload X3.here hx rfl (hb hby d3_42) rfl rfl kz) ?_
  show OG p e below Φ T3 m 44 #[rv s_, rv a, iv 0, iv 2, .val .null, rv b3] [(.ref b3), (.ref s_)]
  refine OGo.st (fun _ kz => XS.iloadN X3.here hx rfl (hb hby d3_44) rfl kz) ?_
  show OG p e below Φ T3 m 45 #[rv s_, rv a, iv 0, iv 2, .val .null, rv b3] [(.int 2), (.ref b3), (.ref s_)]
  obtain ⟨_, T8, L8, X8, hQ8, st8⟩ := own_callSt X3 hx hZ hown (ow27 hw) (ow28 hw) (ow22 hw) (ow29 hw) (by decide) (rs2cf l Z a0 hw [] b3 cb3 c0_ c1_ T3.heap n0 Zs3 Vq3) rfl (W := 1) (by decide) (by decide) (by decide) (by decide) (pc := 45) (ls := #[rv s_, rv a, iv 0, iv 2, .val .null, rv b3]) (stk := [(.int 2), (.ref b3), (.ref s_)]) (by rw [hml]; rfl) (argsL := [(.ref b3), (.int 2)]) (rest := [(.ref s_)]) (lenOf pd3 rfl) rfl rfl (Nat.le_of_eq rfl) (hb hby d3_45)
  obtain ⟨rfl, Nq8, e8⟩ := hQ8
  have N8 := Fr.app N3 Nq8
  refine OGo.st st8 ?_
  show OG p e below Φ T8 m 48 #[rv s_, rv a, iv 0, iv 2, .val .null, rv b3] [(.int 0), (.ref s_)]
  obtain ⟨T9, h9, X9, e9, W9, st9⟩ := putF X8 hx hZ hown (host := "") (Or.inl (ow30 hw)) Via.refl e8 F6 F4 (Or.inr ⟨(ow31 hw), rfl, hnm⟩) (ow7 hw) (ty := .byte) (by decide) (by decide) (by decide) (g := (mkF m 48 #[rv s_, rv a, iv 0, iv 2, .val .null, rv b3] [(.int 0), (.ref s_)])) rfl rfl (hb hby d3_48)
  have F10 := F4.wr W9
  have F11 := F5.other W9 (Or.inr (slot_ne (Or.inr (ow33 hw)) (Or.inr (ow31 hw)) (by decide) (t := (.array .byte)) (t' := .byte) (by decide) (by decide)))
  have F12 := F6.same W9
  have F13 := F7.other W9 (Ne.symm nsa)
  have F14 := Vq3.other W9 (Ne.symm nq3_s_)
  have K9 := K3.wr W9 (Or.inl (List.mem_of_getElem? (i := 0) rfl))
  have N9 := Fr.snoc X9 N8 g_s
  have Zs9 : n0 ≤ h9.size := by rw [W9.size]; exact Zs3
  refine OGo.st st9 ?_
  show OG p e below Φ T9 m 51 #[rv s_, rv a, iv 0, iv 2, .val .null, rv b3] []
  refine OGo.st (fun _ kz => XS.aloadN X9.here hx rfl (hb hby d3_51) rfl rfl kz) ?_
  show OG p e below Φ T9 m 52 #[rv s_, rv a, iv 0, iv 2, .val .null, rv b3] [(.ref s_)]
  refine OGo.st (fun _ kz => XS.aload X9.here hx rfl (hb hby d3_52) rfl rfl kz) ?_
  show OG p e below Φ T9 m 54 #[rv s_, rv a, iv 0, iv 2, .val .null, rv b3] [(.ref b3), (.ref s_)]
  obtain ⟨T15, h15, X15, e15, W15, st15⟩ := putF X9 hx hZ hown (host := "") (Or.inl (ow32 hw)) Via.refl e9 F11 F10 (Or.inr ⟨(ow33 hw), rfl, hnm⟩) (ow7 hw) (ty := (.array .byte)) (by decide) rfl rfl (g := (mkF m 54 #[rv s_, rv a, iv 0, iv 2, .val .null, rv b3] [(.ref b3), (.ref s_)])) rfl rfl (hb hby d3_54)
  have F16 := F10.wr W15
  have F17 := F11.same W15
  have F18 := F12.other W15 (Or.inr (slot_ne (Or.inr (ow31 hw)) (Or.inr (ow33 hw)) (by decide) (t := .byte) (t' := (.array .byte)) (by decide) (by decide)))
  have F19 := F13.other W15 (Ne.symm nsa)
  have F20 := F14.other W15 (Ne.symm nq3_s_)
  have K15 := K9.wr W15 (Or.inl (List.mem_of_getElem? (i := 0) rfl))
  have N15 := Fr.snoc X15 N9 g_s
  have Zs15 : n0 ≤ h15.size := by rw [W15.size]; exact Zs9
  refine OGo.st st15 ?_
  show OG p e below Φ T15 m 57 #[rv s_, rv a, iv 0, iv 2, .val .null, rv b3] []
  refine OGo.fin X15 hlk (v := none) (fun _ => rfl) (by decide) (by decide) (fun fs hr => X15.returnOut hx hret (hb hby d3_57) hr) fun U eU hF => hΦ _ _ _ ?_ hF
  rw [eU, e15]
  show Q_rs2i4 Z s_ a ca qc c0_ c1_ h0 n0 _ _ _
  exact ⟨rfl, N15, K15, F16, _, _, F17, F18, F20, sq3⟩

theorem d2_0 : decode jdk_42_method_3_code 0 = .ok (.aload_n 0, 1) := by decide +kernel
theorem d2_1 : decode jdk_42_method_3_code 1 = .ok (.aload_n 1, 1) := by decide +kernel
theorem d2_2 : decode jdk_42_method_3_code 2 = .ok (.iconst 0, 1) := by decide +kernel
theorem d2_3 : decode jdk_42_method_3_code 3 = .ok (.aload_n 1, 1) := by decide +kernel
theorem d2_4 : decode jdk_42_method_3_code 4 = .ok (.arraylength, 1) := by decide +kernel
theorem d2_5 : decode jdk_42_method_3_code 5 = .ok (.aconst_null, 1) := by decide +kernel
theorem d2_6 : decode jdk_42_method_3_code 6 = .ok (.invokespecial 27, 3) := by decide +kernel
theorem pd4 : parseMethodDescriptor "([CIILjava/lang/Void;)V" = some ⟨[(.array .char), .int, .int, (.object "java/lang/Void")], none⟩ := by decide +kernel
theorem d2_9 : decode jdk_42_method_3_code 9 = .ok (.return_, 1) := by decide +kernel
theorem ef_rs2i1 (m : MethodId) (x0 : Addr) (x1 : Addr) : entryFrame m #[(.ref x0), (.ref x1)] 2 = mkF m 0 #[.val (.ref x0), .val (.ref x1)] [] := by first | (simp [entryFrame, mkF, argsToLocals, Value.category]; done) | rfl
def Q_rs2i1 (Z : State) (s_ : Addr) (a : Addr) (ca : ClassId) (qc : Int32) (c0_ : Int32) (c1_ : Int32) (h0 : Heap) (n0 : Nat) (v : Option Value) (h : Heap) (L : List Loc) : Prop := v = none ∧ Fr n0 L ∧ Keep h0 h [s_] ∧ Exa Z h s_ "java/lang/String" ∧ ∃ b cb, Fld Z h s_ "java/lang/String" "value" "[B" (.ref b) ∧ Fld Z h s_ "java/lang/String" "coder" "B" (.int (0 : Int32)) ∧ Arv Z h b cb .byte (2 : Int32) [(.int (nar .byte (c0_.toInt8.toInt32))), (.int (nar .byte (c1_.toInt8.toInt32)))] (.int (0 : Int32)) ∧ h0.size ≤ b
set_option maxRecDepth 65536 in
set_option maxHeartbeats 40000000 in
theorem rs2i1 (l : Launch) (Z : State) (a0 : Array Value) (hw : ∀ d ∈ tables_1, d.before a0 Z = true) (ws : List Jvm.Cond) (s_ : Addr) (a : Addr) (ca : ClassId) (qc : Int32) (c0_ : Int32) (c1_ : Int32) (h0 : Heap) (n0 : Nat) (Z0 : n0 ≤ h0.size) (E_s : Exa Z h0 s_ "java/lang/String") (g_s : n0 ≤ s_) (F_v : Fld Z h0 s_ "java/lang/String" "value" "[B" .null) (F_c : Fld Z h0 s_ "java/lang/String" "coder" "B" (.int (0 : Int32))) (V_a : Arv Z h0 a ca .char (2 : Int32) [(.int c0_), (.int c1_)] (.int (0 : Int32))) (nsa : s_ ≠ a) (S_q : Sta Z h0 "java/lang/String" "COMPACT_STRINGS" "Z" (.int qc)) (hq : ¬ qc = 0) (hl0 : ¬ (255 : Int32) < c0_) (hl1 : ¬ (255 : Int32) < c1_) :
    OCon l Z (⟨"java/lang/String", "<init>", "([C)V"⟩ : MethodName) jdk_42_method_3_code 2 none ws ({ frames := 3, cells := 1, slots := 2, locals := 52 } : Room) #[(.ref s_), (.ref a)] h0 (Q_rs2i1 Z s_ a ca qc c0_ c1_ h0 n0) := by
  refine OCon.of (plainFor_of_name pn0) ?_
  intro p e s m below meth c s₁ Φ X0 hx hby hml hown hnm hret hlk hZ e0 hΦ
  have N0 := Fr.nil n0
  refine OGo.st (fun _ kz => castTop (ef_rs2i1 m s_ a) kz) ?_
  have K0 := Keep.refl h0 [s_]
  show OG p e below Φ s₁ m 0 #[rv s_, rv a] []
  refine OGo.st (fun _ kz => XS.aloadN X0.here hx rfl (hb hby d2_0) rfl rfl kz) ?_
  show OG p e below Φ s₁ m 1 #[rv s_, rv a] [(.ref s_)]
  refine OGo.st (fun _ kz => XS.aloadN X0.here hx rfl (hb hby d2_1) rfl rfl kz) ?_
  show OG p e below Φ s₁ m 2 #[rv s_, rv a] [(.ref a), (.ref s_)]
  refine OGo.st (fun _ kz => XS.iconst X0.here hx rfl (hb hby d2_2) kz) ?_
  show OG p e below Φ s₁ m 3 #[rv s_, rv a] [(.int 0), (.ref a), (.ref s_)]
  refine OGo.st (fun _ kz => XS.aloadN X0.here hx rfl (hb hby d2_3) rfl rfl kz) ?_
  show OG p e below Φ s₁ m 4 #[rv s_, rv a] [(.ref a), (.int 0), (.ref a), (.ref s_)]
  obtain ⟨cl1, Aq1, -, S1, M1, -, -⟩ := id V_a
  refine OGo.st (fun _ kz => X0.arraylength hx (by rw [e0]; exact Aq1.1) (State.isArrayOf_alike hZ.alike Aq1.2.1) (g := (mkF m 4 #[rv s_, rv a] [(.ref a), (.int 0), (.ref a), (.ref s_)])) rfl rfl (hb hby d2_4) _ kz) ?_
  rw [len_of S1 M1]
  show OG p e below Φ s₁ m 5 #[rv s_, rv a] [(.int 2), (.int 0), (.ref a), (.ref s_)]
  refine OGo.st (fun _ kz => XS.aconstNull X0.here hx rfl (hb hby d2_5) kz) ?_
  show OG p e below Φ s₁ m 6 #[rv s_, rv a] [.null, (.int 2), (.int 0), (.ref a), (.ref s_)]
  obtain ⟨_, T2, L2, X2, hQ2, st2⟩ := own_callSp X0 hx hZ rfl hown (ow12 hw) (ow13 hw) (ow8 hw) (ow15 hw) (by decide) (rs2i4 l Z a0 hw [] s_ a ca qc c0_ c1_ h0 n0 Z0 E_s g_s F_v F_c V_a nsa S_q hq hl0 hl1) e0 (W := 0) (by decide) (by decide) (by decide) (by decide) (pc := 6) (ls := #[rv s_, rv a]) (stk := [.null, (.int 2), (.int 0), (.ref a), (.ref s_)]) (by rw [hml]; rfl) (a := s_) (argsL := [(.ref a), (.int 0), (.int 2), .null]) (rest := []) (lenOf pd4 rfl) rfl rfl (Nat.le_of_eq rfl) (hb hby d2_6)
  obtain ⟨rfl, Nq2, Kq2, Eq2, b2, cb2, Fv2, Fc2, Vq2, hz2⟩ := hQ2
  have nq2_a : a ≠ b2 := Nat.ne_of_lt (Nat.lt_of_lt_of_le V_a.lt hz2)
  have nq2_s_ : s_ ≠ b2 := Nat.ne_of_lt (Nat.lt_of_lt_of_le E_s.lt hz2)
  have gq2 : n0 ≤ b2 := Nat.le_trans Z0 hz2
  have sq2 : h0.size ≤ b2 := Nat.le_trans K0.1 hz2
  have N2 := Fr.app N0 Nq2
  have Zs2 : n0 ≤ T2.heap.size := Nat.le_trans Z0 Kq2.1
  have F3 := V_a.keep Kq2 (ninS (Ne.symm nsa) nin0)
  have K2 := K0.trans Kq2 (allS (Or.inl (List.mem_of_getElem? (i := 0) rfl)) all0)
  refine OGo.st st2 ?_
  show OG p e below Φ T2 m 9 #[rv s_, rv a] []
  refine OGo.fin X2 hlk (v := none) (fun _ => rfl) (by decide) (by decide) (fun fs hr => X2.returnOut hx hret (hb hby d2_9) hr) fun U eU hF => hΦ _ _ _ ?_ hF
  rw [eU]
  show Q_rs2i1 Z s_ a ca qc c0_ c1_ h0 n0 _ _ _
  exact ⟨rfl, N2, K2, Eq2, _, _, Fv2, Fc2, Vq2, sq2⟩

theorem pn4 : plainName "com/example/crossweave/crossweave/PostgreSqlText" = true := by first | (simp [plainName, overriddenIn]; done) | decide +kernel
theorem d1_0 : decode prog_4_method_7_code 0 = .ok (.iconst 2, 1) := by decide +kernel
theorem d1_1 : decode prog_4_method_7_code 1 = .ok (.iconst 2, 1) := by decide +kernel
theorem d1_2 : decode prog_4_method_7_code 2 = .ok (.aload_n 0, 1) := by decide +kernel
theorem d1_3 : decode prog_4_method_7_code 3 = .ok (.arraylength, 1) := by decide +kernel
theorem d1_4 : decode prog_4_method_7_code 4 = .ok (.imul, 1) := by decide +kernel
theorem d1_5 : decode prog_4_method_7_code 5 = .ok (.iadd, 1) := by decide +kernel
theorem d1_6 : decode prog_4_method_7_code 6 = .ok (.newarray .char, 2) := by decide +kernel
theorem d1_8 : decode prog_4_method_7_code 8 = .ok (.astore_n 1, 1) := by decide +kernel
theorem d1_9 : decode prog_4_method_7_code 9 = .ok (.aload_n 1, 1) := by decide +kernel
theorem d1_10 : decode prog_4_method_7_code 10 = .ok (.iconst 0, 1) := by decide +kernel
theorem d1_11 : decode prog_4_method_7_code 11 = .ok (.bipush 92, 2) := by decide +kernel
theorem d1_13 : decode prog_4_method_7_code 13 = .ok (.castore, 1) := by decide +kernel
theorem d1_14 : decode prog_4_method_7_code 14 = .ok (.aload_n 1, 1) := by decide +kernel
theorem d1_15 : decode prog_4_method_7_code 15 = .ok (.iconst 1, 1) := by decide +kernel
theorem d1_16 : decode prog_4_method_7_code 16 = .ok (.bipush 120, 2) := by decide +kernel
theorem d1_18 : decode prog_4_method_7_code 18 = .ok (.castore, 1) := by decide +kernel
theorem d1_19 : decode prog_4_method_7_code 19 = .ok (.iconst 0, 1) := by decide +kernel
theorem d1_20 : decode prog_4_method_7_code 20 = .ok (.istore_n 2, 1) := by decide +kernel
theorem d1_21 : decode prog_4_method_7_code 21 = .ok (.iload_n 2, 1) := by decide +kernel
theorem d1_22 : decode prog_4_method_7_code 22 = .ok (.aload_n 0, 1) := by decide +kernel
theorem d1_23 : decode prog_4_method_7_code 23 = .ok (.arraylength, 1) := by decide +kernel
theorem d1_24 : decode prog_4_method_7_code 24 = .ok (.if_icmp .ge 45, 3) := by decide +kernel
theorem d1_69 : decode prog_4_method_7_code 69 = .ok (.new 161, 3) := by decide +kernel
theorem d1_72 : decode prog_4_method_7_code 72 = .ok (.dup, 1) := by decide +kernel
theorem d1_73 : decode prog_4_method_7_code 73 = .ok (.aload_n 1, 1) := by decide +kernel
theorem d1_74 : decode prog_4_method_7_code 74 = .ok (.invokespecial 163, 3) := by decide +kernel
theorem pd5 : parseMethodDescriptor "([C)V" = some ⟨[(.array .char)], none⟩ := by decide +kernel
theorem d1_77 : decode prog_4_method_7_code 77 = .ok (.areturn, 1) := by decide +kernel
theorem ef_rof0 (m : MethodId) (x0 : Addr) : entryFrame m #[(.ref x0)] 3 = mkF m 0 #[.val (.ref x0), .unset, .unset] [] := by first | (simp [entryFrame, mkF, argsToLocals, Value.category]; done) | rfl
def Q_rof0 (Z : State) (ay : Addr) (cy : ClassId) (ah : Addr) (ch : ClassId) (qc : Int32) (h0 : Heap) (n0 : Nat) (v : Option Value) (h : Heap) (L : List Loc) : Prop := ∃ s_ b cb, v = some (.ref s_) ∧ Fr n0 L ∧ Keep h0 h [] ∧ Exa Z h s_ "java/lang/String" ∧ Fld Z h s_ "java/lang/String" "value" "[B" (.ref b) ∧ Fld Z h s_ "java/lang/String" "coder" "B" (.int (0 : Int32)) ∧ Arv Z h b cb .byte (2 : Int32) [(.int (92 : Int32)), (.int (120 : Int32))] (.int (0 : Int32)) ∧ h0.size ≤ s_ ∧ h0.size ≤ b ∧ s_ ≠ b
set_option maxRecDepth 65536 in
set_option maxHeartbeats 40000000 in
theorem rof0 (l : Launch) (Z : State) (a0 : Array Value) (hw : ∀ d ∈ tables_1, d.before a0 Z = true) (ws : List Jvm.Cond) (ay : Addr) (cy : ClassId) (ah : Addr) (ch : ClassId) (qc : Int32) (h0 : Heap) (n0 : Nat) (Z0 : n0 ≤ h0.size) (O_0 : Old Z n0 h0) (V_y : Arv Z h0 ay cy .byte (0 : Int32) [] (.int (0 : Int32))) (V_h : Arv Z h0 ah ch .char (16 : Int32) own_hxl (.int (0 : Int32))) (S_h : Sta Z Z.heap "com/example/crossweave/crossweave/PostgreSqlText" "HEX_DIGITS" "[C" (.ref ah)) (S_cs : Sta Z Z.heap "java/lang/String" "COMPACT_STRINGS" "Z" (.int qc)) (hq : ¬ qc = 0) :
    OCon l Z (⟨"com/example/crossweave/crossweave/PostgreSqlText", "ofBytes", "([B)Ljava/lang/String;"⟩ : MethodName) prog_4_method_7_code 3 (some (.object "java/lang/String")) ws ({ frames := 4, cells := 3, slots := 8, locals := 66 } : Room) #[(.ref ay)] h0 (Q_rof0 Z ay cy ah ch qc h0 n0) := by
  refine OCon.of (plainFor_of_name pn4) ?_
  intro p e s m below meth c s₁ Φ X0 hx hby hml hown hnm hret hlk hZ e0 hΦ
  have N0 := Fr.nil n0
  refine OGo.st (fun _ kz => castTop (ef_rof0 m ay) kz) ?_
  have K0 := Keep.refl h0 []
  show OG p e below Φ s₁ m 0 #[rv ay, .unset, .unset] []
  refine OGo.st (fun _ kz => XS.iconst X0.here hx rfl (hb hby d1_0) kz) ?_
  show OG p e below Φ s₁ m 1 #[rv ay, .unset, .unset] [(.int 2)]
  refine OGo.st (fun _ kz => XS.iconst X0.here hx rfl (hb hby d1_1) kz) ?_
  show OG p e below Φ s₁ m 2 #[rv ay, .unset, .unset] [(.int 2), (.int 2)]
  refine OGo.st (fun _ kz => XS.aloadN X0.here hx rfl (hb hby d1_2) rfl rfl kz) ?_
  show OG p e below Φ s₁ m 3 #[rv ay, .unset, .unset] [(.ref ay), (.int 2), (.int 2)]
  obtain ⟨cl1, Aq1, -, S1, M1, -, -⟩ := id V_y
  refine OGo.st (fun _ kz => X0.arraylength hx (by rw [e0]; exact Aq1.1) (State.isArrayOf_alike hZ.alike Aq1.2.1) (g := (mkF m 3 #[rv ay, .unset, .unset] [(.ref ay), (.int 2), (.int 2)])) rfl rfl (hb hby d1_3) _ kz) ?_
  rw [len_of S1 M1]
  show OG p e below Φ s₁ m 4 #[rv ay, .unset, .unset] [(.int 0), (.int 2), (.int 2)]
  refine OGo.st (fun _ kz => XS.imul X0.here hx rfl (hb hby d1_4) rfl kz) ?_
  show OG p e below Φ s₁ m 5 #[rv ay, .unset, .unset] [(.int 0), (.int 2)]
  refine OGo.st (fun _ kz => XS.iadd X0.here hx rfl (hb hby d1_5) rfl kz) ?_
  show OG p e below Φ s₁ m 6 #[rv ay, .unset, .unset] [(.int 2)]
  obtain ⟨T2, h2, c2, X2, e2, E2, Ar2, st2⟩ := newP (aty := .char) X0 hx hZ (ow5 hw) e0 (g := (mkF m 6 #[rv ay, .unset, .unset] [(.int 2)])) rfl (hb hby d1_6) rfl (by decide) (cap := 2) (by decide) (by decide) (by decide) (by decide)
  obtain ⟨b2, g2⟩ : ∃ z, z = h0.size := ⟨_, rfl⟩
  rw [← g2] at Ar2 st2
  have ne2_ah : ah ≠ b2 := by rw [g2]; exact Nat.ne_of_lt V_h.lt
  have ne2_ay : ay ≠ b2 := by rw [g2]; exact Nat.ne_of_lt V_y.lt
  have F3 := V_y.ext E2
  have F4 := V_h.ext E2
  have F5 := O_0.ext E2
  have gb2 : n0 ≤ b2 := Nat.le_trans Z0 (Nat.le_of_eq g2.symm)
  have sz2 : h0.size ≤ b2 := Nat.le_trans K0.1 (Nat.le_of_eq g2.symm)
  have K2 := K0.ext E2
  have Zs2 : n0 ≤ h2.size := Nat.le_trans Z0 E2.1
  have V2 : Arv Z h2 b2 c2 .char (2 : Int32) [(.int (0 : Int32)), (.int (0 : Int32))] (.int (0 : Int32)) := (Arv.new Ar2 (by decide)).pad (pad_rep [] _ 2)
  refine OGo.st st2 ?_
  show OG p e below Φ T2 m 8 #[rv ay, .unset, .unset] [(.ref b2)]
  refine OGo.st (fun _ kz => XS.astoreN X2.here hx rfl (hb hby d1_8) rfl rfl (l' := #[rv ay, rv b2, .unset]) rfl kz) ?_
  show OG p e below Φ T2 m 9 #[rv ay, rv b2, .unset] []
  refine OGo.st (fun _ kz => XS.aloadN X2.here hx rfl (hb hby d1_9) rfl rfl kz) ?_
  show OG p e below Φ T2 m 10 #[rv ay, rv b2, .unset] [(.ref b2)]
  refine OGo.st (fun _ kz => XS.iconst X2.here hx rfl (hb hby d1_10) kz) ?_
  show OG p e below Φ T2 m 11 #[rv ay, rv b2, .unset] [(.int 0), (.ref b2)]
  refine OGo.st (fun _ kz => XS.bipush X2.here hx rfl (hb hby d1_11) kz) ?_
  show OG p e below Φ T2 m 13 #[rv ay, rv b2, .unset] [(.int 92), (.int 0), (.ref b2)]
  obtain ⟨cl6, Aq6, Cq6, S6, M6, H6, G6⟩ := id V2
  have in6 : ¬ ((0 : Int32) < 0 ∨ cl6.slots.size ≤ (0 : Int32).toNatClampNeg) := inb_of S6 ⟨by decide, by decide⟩
  obtain ⟨T6, h6, X6, e6, W6, st6⟩ := stC X2 hx hZ e2 Aq6 in6 (g := (mkF m 13 #[rv ay, rv b2, .unset] [(.int 92), (.int 0), (.ref b2)])) rfl rfl (hb hby d1_13)
  have W6 : Wr h2 h6 b2 (0 : Int32).toNatClampNeg (.int (92 : Int32)) := W6
  have F7 := F3.other W6 ne2_ay
  have F8 := F4.other W6 ne2_ah
  have F9 := F5.wr W6 gb2
  have V6 : Arv Z h6 b2 c2 .char (2 : Int32) [(.int (92 : Int32)), (.int (0 : Int32))] (.int (0 : Int32)) := Arv.set Aq6 Cq6 S6 M6 H6 G6 (by decide) W6 0 (by decide) (by show 0 < 2; decide)
  have K6 := K2.wr W6 (Or.inr sz2)
  have N6 := Fr.snoc X6 N0 gb2
  have Zs6 : n0 ≤ h6.size := by rw [W6.size]; exact Zs2
  refine OGo.st st6 ?_
  show OG p e below Φ T6 m 14 #[rv ay, rv b2, .unset] []
  refine OGo.st (fun _ kz => XS.aloadN X6.here hx rfl (hb hby d1_14) rfl rfl kz) ?_
  show OG p e below Φ T6 m 15 #[rv ay, rv b2, .unset] [(.ref b2)]
  refine OGo.st (fun _ kz => XS.iconst X6.here hx rfl (hb hby d1_15) kz) ?_
  show OG p e below Φ T6 m 16 #[rv ay, rv b2, .unset] [(.int 1), (.ref b2)]
  refine OGo.st (fun _ kz => XS.bipush X6.here hx rfl (hb hby d1_16) kz) ?_
  show OG p e below Φ T6 m 18 #[rv ay, rv b2, .unset] [(.int 120), (.int 1), (.ref b2)]
  obtain ⟨cl10, Aq10, Cq10, S10, M10, H10, G10⟩ := id V6
  have in10 : ¬ ((1 : Int32) < 0 ∨ cl10.slots.size ≤ (1 : Int32).toNatClampNeg) := inb_of S10 ⟨by decide, by decide⟩
  obtain ⟨T10, h10, X10, e10, W10, st10⟩ := stC X6 hx hZ e6 Aq10 in10 (g := (mkF m 18 #[rv ay, rv b2, .unset] [(.int 120), (.int 1), (.ref b2)])) rfl rfl (hb hby d1_18)
  have W10 : Wr h6 h10 b2 (1 : Int32).toNatClampNeg (.int (120 : Int32)) := W10
  have F11 := F7.other W10 ne2_ay
  have F12 := F8.other W10 ne2_ah
  have F13 := F9.wr W10 gb2
  have V10 : Arv Z h10 b2 c2 .char (2 : Int32) [(.int (92 : Int32)), (.int (120 : Int32))] (.int (0 : Int32)) := Arv.set Aq10 Cq10 S10 M10 H10 G10 (by decide) W10 1 (by decide) (by show 1 < 2; decide)
  have K10 := K6.wr W10 (Or.inr sz2)
  have N10 := Fr.snoc X10 N6 gb2
  have Zs10 : n0 ≤ h10.size := by rw [W10.size]; exact Zs6
  refine OGo.st st10 ?_
  show OG p e below Φ T10 m 19 #[rv ay, rv b2, .unset] []
  refine OGo.st (fun _ kz => XS.iconst X10.here hx rfl (hb hby d1_19) kz) ?_
  show OG p e below Φ T10 m 20 #[rv ay, rv b2, .unset] [(.int 0)]
  refine OGo.st (fun _ kz => XS.istoreN X10.here hx rfl (hb hby d1_20) rfl (l' := #[rv ay, rv b2, iv 0]) rfl kz) ?_
  show OG p e below Φ T10 m 21 #[rv ay, rv b2, iv 0] []
  refine OGo.st (fun _ kz => XS.iloadN X10.here hx rfl (hb hby d1_21) rfl kz) ?_
  show OG p e below Φ T10 m 22 #[rv ay, rv b2, iv 0] [(.int 0)]
  refine OGo.st (fun _ kz => XS.aloadN X10.here hx rfl (hb hby d1_22) rfl rfl kz) ?_
  show OG p e below Φ T10 m 23 #[rv ay, rv b2, iv 0] [(.ref ay), (.int 0)]
  obtain ⟨cl14, Aq14, -, S14, M14, -, -⟩ := id F11
  refine OGo.st (fun _ kz => X10.arraylength hx (by rw [e10]; exact Aq14.1) (State.isArrayOf_alike hZ.alike Aq14.2.1) (g := (mkF m 23 #[rv ay, rv b2, iv 0] [(.ref ay), (.int 0)])) rfl rfl (hb hby d1_23) _ kz) ?_
  rw [len_of S14 M14]
  show OG p e below Φ T10 m 24 #[rv ay, rv b2, iv 0] [(.int 0), (.int 0)]
  refine OGo.st (fun _ kz => XS.icmpYes X10.here hx rfl (pc0 := 24) (pc' := 69) rfl (hb hby d1_24) rfl (XT.ii_ge_t (by decide)) (by decide) (by decide) kz) ?_
  show OG p e below Φ T10 m 69 #[rv ay, rv b2, iv 0] []
  obtain ⟨T15, h15, X15, e15, E15, A15, D15, U15, st15⟩ := newO X10 hx hZ hown (ow6 hw) (ow7 hw) (ow8 hw) e10 (g := (mkF m 69 #[rv ay, rv b2, iv 0] [])) rfl (hb hby d1_69) (by decide) (by decide)
  obtain ⟨b15, g15⟩ : ∃ z, z = h10.size := ⟨_, rfl⟩
  rw [← g15] at A15 D15 st15 U15
  have ne15_ah : ah ≠ b15 := by rw [g15]; exact Nat.ne_of_lt F12.lt
  have ne15_ay : ay ≠ b15 := by rw [g15]; exact Nat.ne_of_lt F11.lt
  have ne15_b2 : b2 ≠ b15 := by rw [g15]; exact Nat.ne_of_lt V10.lt
  have F16 := F11.ext E15
  have F17 := F12.ext E15
  have F18 := F13.ext E15
  have F19 := V10.ext E15
  have gb15 : n0 ≤ b15 := Nat.le_trans Zs10 (Nat.le_of_eq g15.symm)
  have K15 := K10.ext E15
  have sz15 : h0.size ≤ b15 := Nat.le_trans K10.1 (Nat.le_of_eq g15.symm)
  have Zs15 : n0 ≤ h15.size := Nat.le_trans Zs10 E15.1
  have F15_31 : Fld Z h15 b15 "java/lang/String" "coder" "B" (.int (0 : Int32)) := D15 (Or.inr (ow31 hw)) (ty := .byte) (by decide)
  have F15_33 : Fld Z h15 b15 "java/lang/String" "value" "[B" .null := D15 (Or.inr (ow33 hw)) (ty := (.array .byte)) (by decide)
  refine OGo.st (st15) ?_
  show OG p e below Φ T15 m 72 #[rv ay, rv b2, iv 0] [(.ref b15)]
  refine OGo.st (fun _ kz => XS.dup X15.here hx rfl (hb hby d1_72) rfl rfl kz) ?_
  show OG p e below Φ T15 m 73 #[rv ay, rv b2, iv 0] [(.ref b15), (.ref b15)]
  refine OGo.st (fun _ kz => XS.aloadN X15.here hx rfl (hb hby d1_73) rfl rfl kz) ?_
  show OG p e below Φ T15 m 74 #[rv ay, rv b2, iv 0] [(.ref b2), (.ref b15), (.ref b15)]
  obtain ⟨_, T20, L20, X20, hQ20, st20⟩ := own_callSp X15 hx hZ rfl hown (ow9 hw) (ow10 hw) (ow8 hw) (ow11 hw) (by decide) (rs2i1 l Z a0 hw [] b15 b2 c2 qc (92 : Int32) (120 : Int32) h15 n0 Zs15 A15 gb15 F15_33 F15_31 F19 (Ne.symm ne15_b2) (S_cs.ext F18.2) hq (by decide) (by decide)) e15 (W := 1) (by decide) (by decide) (by decide) (by decide) (pc := 74) (ls := #[rv ay, rv b2, iv 0]) (stk := [(.ref b2), (.ref b15), (.ref b15)]) (by rw [hml]; rfl) (a := b15) (argsL := [(.ref b2)]) (rest := [(.ref b15)]) (lenOf pd5 rfl) rfl rfl (Nat.le_of_eq rfl) (hb hby d1_74)
  obtain ⟨rfl, Nq20, Kq20, Eq20, b20, cb20, Fv20, Fc20, Vq20, hz20⟩ := hQ20
  have nq20_ah : ah ≠ b20 := Nat.ne_of_lt (Nat.lt_of_lt_of_le F17.lt hz20)
  have nq20_ay : ay ≠ b20 := Nat.ne_of_lt (Nat.lt_of_lt_of_le F16.lt hz20)
  have nq20_b15 : b15 ≠ b20 := Nat.ne_of_lt (Nat.lt_of_lt_of_le A15.lt hz20)
  have nq20_b2 : b2 ≠ b20 := Nat.ne_of_lt (Nat.lt_of_lt_of_le F19.lt hz20)
  have gq20 : n0 ≤ b20 := Nat.le_trans Zs15 hz20
  have sq20 : h0.size ≤ b20 := Nat.le_trans K15.1 hz20
  have N20 := Fr.app N10 Nq20
  have Zs20 : n0 ≤ T20.heap.size := Nat.le_trans Zs15 Kq20.1
  have F21 := F16.keep Kq20 (ninS ne15_ay nin0)
  have F22 := F17.keep Kq20 (ninS ne15_ah nin0)
  have F23 := F18.keep Kq20 (allS gb15 all0)
  have F24 := F19.keep Kq20 (ninS ne15_b2 nin0)
  have K20 := K15.trans Kq20 (allS (Or.inr sz15) all0)
  refine OGo.st st20 ?_
  show OG p e below Φ T20 m 77 #[rv ay, rv b2, iv 0] [(.ref b15)]
  refine OGo.fin X20 hlk (v := (some (.ref b15))) (fun h => by rw [hret] at h; cases h) (by decide) (by decide) (fun fs hr => X20.areturnOut hx rfl hret rfl (hb hby d1_77) hr) fun U eU hF => hΦ _ _ _ ?_ hF
  rw [eU]
  show Q_rof0 Z ay cy ah ch qc h0 n0 _ _ _
  exact ⟨_, _, _, rfl, N20, K20, Eq20, Fv20, Fc20, Vq20, sz15, sq20, nq20_b15⟩

theorem d8_0 : decode jdk_42_method_54_code 0 = .ok (.aload_n 0, 1) := by decide +kernel
theorem d8_1 : decode jdk_42_method_54_code 1 = .ok (.getfield 9, 3) := by decide +kernel
theorem d8_4 : decode jdk_42_method_54_code 4 = .ok (.arraylength, 1) := by decide +kernel
theorem d8_5 : decode jdk_42_method_54_code 5 = .ok (.aload_n 0, 1) := by decide +kernel
theorem d8_6 : decode jdk_42_method_54_code 6 = .ok (.invokevirtual 335, 3) := by decide +kernel
theorem pd6 : parseMethodDescriptor "()B" = some ⟨[], some .byte⟩ := by decide +kernel
theorem d8_9 : decode jdk_42_method_54_code 9 = .ok (.ishr, 1) := by decide +kernel
theorem d8_10 : decode jdk_42_method_54_code 10 = .ok (.ireturn, 1) := by decide +kernel
theorem ef_rgle2 (m : MethodId) (x0 : Addr) : entryFrame m #[(.ref x0)] 1 = mkF m 0 #[.val (.ref x0)] [] := by first | (simp [entryFrame, mkF, argsToLocals, Value.category]; done) | rfl
def Q_rgle2 (Z : State) (s_ : Addr) (b : Addr) (cb : ClassId) (qc : Int32) (c0_ : Int32) (c1_ : Int32) (h0 : Heap) (n0 : Nat) (v : Option Value) (h : Heap) (L : List Loc) : Prop := v = some (.int (2 : Int32)) ∧ Fr n0 L ∧ h = h0
set_option maxRecDepth 65536 in
set_option maxHeartbeats 40000000 in
theorem rgle2 (l : Launch) (Z : State) (a0 : Array Value) (hw : ∀ d ∈ tables_1, d.before a0 Z = true) (ws : List Jvm.Cond) (s_ : Addr) (b : Addr) (cb : ClassId) (qc : Int32) (c0_ : Int32) (c1_ : Int32) (h0 : Heap) (n0 : Nat) (Z0 : n0 ≤ h0.size) (E_s : Exa Z h0 s_ "java/lang/String") (F_v : Fld Z h0 s_ "java/lang/String" "value" "[B" (.ref b)) (F_c : Fld Z h0 s_ "java/lang/String" "coder" "B" (.int (0 : Int32))) (V_b : Arv Z h0 b cb .byte (2 : Int32) [(.int c0_), (.int c1_)] (.int (0 : Int32))) (S_q : Sta Z h0 "java/lang/String" "COMPACT_STRINGS" "Z" (.int qc)) (hq : ¬ qc = 0) :
    OCon l Z (⟨"java/lang/String", "length", "()I"⟩ : MethodName) jdk_42_method_54_code 1 (some .int) ws ({ frames := 1, cells := 0, slots := 0, locals := 13 } : Room) #[(.ref s_)] h0 (Q_rgle2 Z s_ b cb qc c0_ c1_ h0 n0) := by
  refine OCon.of (plainFor_of_name pn0) ?_
  intro p e s m below meth c s₁ Φ X0 hx hby hml hown hnm hret hlk hZ e0 hΦ
  have N0 := Fr.nil n0
  refine OGo.st (fun _ kz => castTop (ef_rgle2 m s_) kz) ?_
  show OG p e below Φ s₁ m 0 #[rv s_] []
  refine OGo.st (fun _ kz => XS.aloadN X0.here hx rfl (hb hby d8_0) rfl rfl kz) ?_
  show OG p e below Φ s₁ m 1 #[rv s_] [(.ref s_)]
  obtain ⟨T1, X1, e1, st1⟩ := getF X0 hx hZ hown (host := "") (Or.inl (ow32 hw)) Via.refl e0 F_v (g := (mkF m 1 #[rv s_] [(.ref s_)])) rfl rfl (hb hby d8_1)
  refine OGo.st st1 ?_
  show OG p e below Φ T1 m 4 #[rv s_] [(.ref b)]
  obtain ⟨cl2, Aq2, -, S2, M2, -, -⟩ := id V_b
  refine OGo.st (fun _ kz => X1.arraylength hx (by rw [e1]; exact Aq2.1) (State.isArrayOf_alike hZ.alike Aq2.2.1) (g := (mkF m 4 #[rv s_] [(.ref b)])) rfl rfl (hb hby d8_4) _ kz) ?_
  rw [len_of S2 M2]
  show OG p e below Φ T1 m 5 #[rv s_] [(.int 2)]
  refine OGo.st (fun _ kz => XS.aloadN X1.here hx rfl (hb hby d8_5) rfl rfl kz) ?_
  show OG p e below Φ T1 m 6 #[rv s_] [(.ref s_), (.int 2)]
  obtain ⟨_, T3, L3, X3, hQ3, st3⟩ := own_callVi X1 hx hZ hown (ow39 hw) (ow40 hw) (notFace_of_selects (args := #[]) (mvT hZ (ow42 hw))) (ow42 hw) (ow41 hw) (ow8 hw) (ow43 hw) (by decide) (rgco l Z a0 hw [] s_ qc h0 n0 Z0 F_c S_q hq) e1 (W := 1) (by decide) (by decide) (by decide) (by decide) E_s (pc := 6) (ls := #[rv s_]) (stk := [(.ref s_), (.int 2)]) (by rw [hml]; rfl) (argsL := []) (rest := [(.int 2)]) (lenOf pd6 rfl) rfl rfl (Nat.le_of_eq rfl) (hb hby d8_6)
  obtain ⟨rfl, Nq3, e3⟩ := hQ3
  have N3 := Fr.app N0 Nq3
  refine OGo.st st3 ?_
  show OG p e below Φ T3 m 9 #[rv s_] [(.int 0), (.int 2)]
  refine OGo.st (fun _ kz => XT.ishr X3.here hx rfl (hb hby d8_9) rfl kz) ?_
  show OG p e below Φ T3 m 10 #[rv s_] [(.int 2)]
  refine OGo.fin X3 hlk (v := (some (.int 2))) (fun h => by rw [hret] at h; cases h) (by decide) (by decide) (fun fs hr => X3.ireturnOut hx hret rfl (by simp) (hb hby d8_10) hr) fun U eU hF => hΦ _ _ _ ?_ hF
  rw [eU, e3]
  show Q_rgle2 Z s_ b cb qc c0_ c1_ h0 n0 _ _ _
  exact ⟨rfl, N3, rfl⟩

theorem pn5 : plainName "java/lang/StringLatin1" = true := by first | (simp [plainName, overriddenIn]; done) | decide +kernel
theorem d12_0 : decode jdk_43_method_2_code 0 = .ok (.iload_n 1, 1) := by decide +kernel
theorem d12_1 : decode jdk_43_method_2_code 1 = .ok (.aload_n 0, 1) := by decide +kernel
theorem d12_2 : decode jdk_43_method_2_code 2 = .ok (.arraylength, 1) := by decide +kernel
theorem d12_3 : decode jdk_43_method_2_code 3 = .ok (.invokestatic 9, 3) := by decide +kernel
theorem pd7 : parseMethodDescriptor "(II)V" = some ⟨[.int, .int], none⟩ := by decide +kernel
theorem d12_6 : decode jdk_43_method_2_code 6 = .ok (.aload_n 0, 1) := by decide +kernel
theorem d12_7 : decode jdk_43_method_2_code 7 = .ok (.iload_n 1, 1) := by decide +kernel
theorem d12_8 : decode jdk_43_method_2_code 8 = .ok (.baload, 1) := by decide +kernel
theorem d12_9 : decode jdk_43_method_2_code 9 = .ok (.sipush 255, 3) := by decide +kernel
theorem d12_12 : decode jdk_43_method_2_code 12 = .ok (.iand, 1) := by decide +kernel
theorem d12_13 : decode jdk_43_method_2_code 13 = .ok (.i2c, 1) := by decide +kernel
theorem d12_14 : decode jdk_43_method_2_code 14 = .ok (.ireturn, 1) := by decide +kernel
theorem ef_rgl2_0 (m : MethodId) (x0 : Addr) (x1 : Int32) : entryFrame m #[(.ref x0), (.int x1)] 2 = mkF m 0 #[.val (.ref x0), .val (.int x1)] [] := by first | (simp [entryFrame, mkF, argsToLocals, Value.category]; done) | rfl
def Q_rgl2_0 (Z : State) (b : Addr) (cb : ClassId) (vf : Value) (c0_ : Int32) (c1_ : Int32) (h0 : Heap) (n0 : Nat) (v : Option Value) (h : Heap) (L : List Loc) : Prop := v = some (.int ((c0_ &&& (255 : Int32)).toUInt32.toUInt16.toUInt32.toInt32)) ∧ Fr n0 L ∧ h = h0
set_option maxRecDepth 65536 in
set_option maxHeartbeats 40000000 in
theorem rgl2_0 (l : Launch) (Z : State) (a0 : Array Value) (hw : ∀ d ∈ tables_1, d.before a0 Z = true) (ws : List Jvm.Cond) (b : Addr) (cb : ClassId) (vf : Value) (c0_ : Int32) (c1_ : Int32) (h0 : Heap) (n0 : Nat) (Z0 : n0 ≤ h0.size) (V_b : Arv Z h0 b cb .byte (2 : Int32) [(.int c0_), (.int c1_)] (.int (0 : Int32))) (S_f : Sta Z h0 "jdk/internal/util/Preconditions" "SIOOBE_FORMATTER" "Ljava/util/function/BiFunction;" vf) (rvf : vf.isRef = true) :
    OCon l Z (⟨"java/lang/StringLatin1", "charAt", "([BI)C"⟩ : MethodName) jdk_43_method_2_code 2 (some .char) ws ({ frames := 2, cells := 0, slots := 0, locals := 27 } : Room) #[(.ref b), (.int (0 : Int32))] h0 (Q_rgl2_0 Z b cb vf c0_ c1_ h0 n0) := by
  refine OCon.of (plainFor_of_name pn5) ?_
  intro p e s m below meth c s₁ Φ X0 hx hby hml hown hnm hret hlk hZ e0 hΦ
  have N0 := Fr.nil n0
  refine OGo.st (fun _ kz => castTop (ef_rgl2_0 m b (0 : Int32)) kz) ?_
  show OG p e below Φ s₁ m 0 #[rv b, iv 0] []
  refine OGo.st (fun _ kz => XS.iloadN X0.here hx rfl (hb hby d12_0) rfl kz) ?_
  show OG p e below Φ s₁ m 1 #[rv b, iv 0] [(.int 0)]
  refine OGo.st (fun _ kz => XS.aloadN X0.here hx rfl (hb hby d12_1) rfl rfl kz) ?_
  show OG p e below Φ s₁ m 2 #[rv b, iv 0] [(.ref b), (.int 0)]
  obtain ⟨cl1, Aq1, -, S1, M1, -, -⟩ := id V_b
  refine OGo.st (fun _ kz => X0.arraylength hx (by rw [e0]; exact Aq1.1) (State.isArrayOf_alike hZ.alike Aq1.2.1) (g := (mkF m 2 #[rv b, iv 0] [(.ref b), (.int 0)])) rfl rfl (hb hby d12_2) _ kz) ?_
  rw [len_of S1 M1]
  show OG p e below Φ s₁ m 3 #[rv b, iv 0] [(.int 2), (.int 0)]
  obtain ⟨_, T2, L2, X2, hQ2, st2⟩ := own_callSt X0 hx hZ hown (ow58 hw) (ow59 hw) (ow8 hw) (ow60 hw) (by decide) (rgci l Z a0 hw [] (0 : Int32) (2 : Int32) vf h0 n0 Z0 (by decide) (by decide) S_f rvf) e0 (W := 0) (by decide) (by decide) (by decide) (by decide) (pc := 3) (ls := #[rv b, iv 0]) (stk := [(.int 2), (.int 0)]) (by rw [hml]; rfl) (argsL := [(.int 0), (.int 2)]) (rest := []) (lenOf pd7 rfl) rfl rfl (Nat.le_of_eq rfl) (hb hby d12_3)
  obtain ⟨rfl, Nq2, e2⟩ := hQ2
  have N2 := Fr.app N0 Nq2
  refine OGo.st st2 ?_
  show OG p e below Φ T2 m 6 #[rv b, iv 0] []
  refine OGo.st (fun _ kz => XS.aloadN X2.here hx rfl (hb hby d12_6) rfl rfl kz) ?_
  show OG p e below Φ T2 m 7 #[rv b, iv 0] [(.ref b)]
  refine OGo.st (fun _ kz => XS.iloadN X2.here hx rfl (hb hby d12_7) rfl kz) ?_
  show OG p e below Φ T2 m 8 #[rv b, iv 0] [(.int 0), (.ref b)]
  obtain ⟨cl3, Aq3, -, S3, M3, H3, -⟩ := id V_b
  have in3 : ¬ ((0 : Int32) < 0 ∨ cl3.slots.size ≤ (0 : Int32).toNatClampNeg) := inb_of S3 ⟨by decide, by decide⟩
  have at3 : cl3.slots[(0 : Int32).toNatClampNeg]? = some (.int c0_) := H3.at in3 rfl
  refine OGo.st (fun _ kz => X2.baloadBytes hx (by rw [e2]; exact Aq3.1) (State.isArrayOf_alike hZ.alike Aq3.2.1) Aq3.2.2 in3 at3 (g := (mkF m 8 #[rv b, iv 0] [(.int 0), (.ref b)])) rfl rfl (hb hby d12_8) _ kz) ?_
  show OG p e below Φ T2 m 9 #[rv b, iv 0] [(.int c0_)]
  refine OGo.st (fun _ kz => XS.sipush X2.here hx rfl (hb hby d12_9) kz) ?_
  show OG p e below Φ T2 m 12 #[rv b, iv 0] [(.int 255), (.int c0_)]
  refine OGo.st (fun _ kz => XS.iand X2.here hx rfl (hb hby d12_12) rfl kz) ?_
  show OG p e below Φ T2 m 13 #[rv b, iv 0] [(.int (c0_ &&& (255 : Int32)))]
  refine OGo.st (fun _ kz => XT.i2c X2.here hx rfl (hb hby d12_13) rfl kz) ?_
  show OG p e below Φ T2 m 14 #[rv b, iv 0] [(.int ((c0_ &&& (255 : Int32)).toUInt32.toUInt16.toUInt32.toInt32))]
  refine OGo.fin X2 hlk (v := (some (.int ((c0_ &&& (255 : Int32)).toUInt32.toUInt16.toUInt32.toInt32)))) (fun h => by rw [hret] at h; cases h) (by decide) (by decide) (fun fs hr => X2.ireturnOut hx hret (XT.narrow_c _) (by simp) (hb hby d12_14) hr) fun U eU hF => hΦ _ _ _ ?_ hF
  rw [eU, e2]
  show Q_rgl2_0 Z b cb vf c0_ c1_ h0 n0 _ _ _
  exact ⟨rfl, N2, rfl⟩

theorem d10_0 : decode jdk_42_method_56_code 0 = .ok (.aload_n 0, 1) := by decide +kernel
theorem d10_1 : decode jdk_42_method_56_code 1 = .ok (.invokevirtual 492, 3) := by decide +kernel
theorem pd8 : parseMethodDescriptor "()Z" = some ⟨[], some .boolean⟩ := by decide +kernel
theorem d10_4 : decode jdk_42_method_56_code 4 = .ok (.ifCond .eq 12, 3) := by decide +kernel
theorem d10_7 : decode jdk_42_method_56_code 7 = .ok (.aload_n 0, 1) := by decide +kernel
theorem d10_8 : decode jdk_42_method_56_code 8 = .ok (.getfield 9, 3) := by decide +kernel
theorem d10_11 : decode jdk_42_method_56_code 11 = .ok (.iload_n 1, 1) := by decide +kernel
theorem d10_12 : decode jdk_42_method_56_code 12 = .ok (.invokestatic 495, 3) := by decide +kernel
theorem pd9 : parseMethodDescriptor "([BI)C" = some ⟨[(.array .byte), .int], some .char⟩ := by decide +kernel
theorem d10_15 : decode jdk_42_method_56_code 15 = .ok (.ireturn, 1) := by decide +kernel
theorem ef_rgh2_0 (m : MethodId) (x0 : Addr) (x1 : Int32) : entryFrame m #[(.ref x0), (.int x1)] 2 = mkF m 0 #[.val (.ref x0), .val (.int x1)] [] := by first | (simp [entryFrame, mkF, argsToLocals, Value.category]; done) | rfl
def Q_rgh2_0 (Z : State) (s_ : Addr) (b : Addr) (cb : ClassId) (qc : Int32) (vf : Value) (c0_ : Int32) (c1_ : Int32) (h0 : Heap) (n0 : Nat) (v : Option Value) (h : Heap) (L : List Loc) : Prop := v = some (.int ((c0_ &&& (255 : Int32)).toUInt32.toUInt16.toUInt32.toInt32)) ∧ Fr n0 L ∧ h = h0
set_option maxRecDepth 65536 in
set_option maxHeartbeats 40000000 in
theorem rgh2_0 (l : Launch) (Z : State) (a0 : Array Value) (hw : ∀ d ∈ tables_1, d.before a0 Z = true) (ws : List Jvm.Cond) (s_ : Addr) (b : Addr) (cb : ClassId) (qc : Int32) (vf : Value) (c0_ : Int32) (c1_ : Int32) (h0 : Heap) (n0 : Nat) (Z0 : n0 ≤ h0.size) (E_s : Exa Z h0 s_ "java/lang/String") (F_v : Fld Z h0 s_ "java/lang/String" "value" "[B" (.ref b)) (F_c : Fld Z h0 s_ "java/lang/String" "coder" "B" (.int (0 : Int32))) (V_b : Arv Z h0 b cb .byte (2 : Int32) [(.int c0_), (.int c1_)] (.int (0 : Int32))) (S_q : Sta Z h0 "java/lang/String" "COMPACT_STRINGS" "Z" (.int qc)) (hq : ¬ qc = 0) (S_f : Sta Z h0 "jdk/internal/util/Preconditions" "SIOOBE_FORMATTER" "Ljava/util/function/BiFunction;" vf) (rvf : vf.isRef = true) :
    OCon l Z (⟨"java/lang/String", "charAt", "(I)C"⟩ : MethodName) jdk_42_method_56_code 2 (some .char) ws ({ frames := 3, cells := 0, slots := 0, locals := 40 } : Room) #[(.ref s_), (.int (0 : Int32))] h0 (Q_rgh2_0 Z s_ b cb qc vf c0_ c1_ h0 n0) := by
  refine OCon.of (plainFor_of_name pn0) ?_
  intro p e s m below meth c s₁ Φ X0 hx hby hml hown hnm hret hlk hZ e0 hΦ
  have N0 := Fr.nil n0
  refine OGo.st (fun _ kz => castTop (ef_rgh2_0 m s_ (0 : Int32)) kz) ?_
  show OG p e below Φ s₁ m 0 #[rv s_, iv 0] []
  refine OGo.st (fun _ kz => XS.aloadN X0.here hx rfl (hb hby d10_0) rfl rfl kz) ?_
  show OG p e below Φ s₁ m 1 #[rv s_, iv 0] [(.ref s_)]
  obtain ⟨_, T1, L1, X1, hQ1, st1⟩ := own_callVi X0 hx hZ hown (ow49 hw) (ow50 hw) (notFace_of_selects (args := #[]) (mvT hZ (ow52 hw))) (ow52 hw) (ow51 hw) (ow8 hw) (ow53 hw) (by decide) (rgis l Z a0 hw [] s_ qc h0 n0 Z0 F_c S_q hq) e0 (W := 0) (by decide) (by decide) (by decide) (by decide) E_s (pc := 1) (ls := #[rv s_, iv 0]) (stk := [(.ref s_)]) (by rw [hml]; rfl) (argsL := []) (rest := []) (lenOf pd8 rfl) rfl rfl (Nat.le_of_eq rfl) (hb hby d10_1)
  obtain ⟨rfl, Nq1, e1⟩ := hQ1
  have N1 := Fr.app N0 Nq1
  refine OGo.st st1 ?_
  show OG p e below Φ T1 m 4 #[rv s_, iv 0] [(.int 1)]
  refine OGo.st (fun _ kz => XS.ifNo X1.here hx rfl (hb hby d10_4) rfl (XT.i0_eq_f (by decide)) kz) ?_
  show OG p e below Φ T1 m 7 #[rv s_, iv 0] []
  refine OGo.st (fun _ kz => XS.aloadN X1.here hx rfl (hb hby d10_7) rfl rfl kz) ?_
  show OG p e below Φ T1 m 8 #[rv s_, iv 0] [(.ref s_)]
  obtain ⟨T2, X2, e2, st2⟩ := getF X1 hx hZ hown (host := "") (Or.inl (ow32 hw)) Via.refl e1 F_v (g := (mkF m 8 #[rv s_, iv 0] [(.ref s_)])) rfl rfl (hb hby d10_8)
  refine OGo.st st2 ?_
  show OG p e below Φ T2 m 11 #[rv s_, iv 0] [(.ref b)]
  refine OGo.st (fun _ kz => XS.iloadN X2.here hx rfl (hb hby d10_11) rfl kz) ?_
  show OG p e below Φ T2 m 12 #[rv s_, iv 0] [(.int 0), (.ref b)]
  obtain ⟨_, T3, L3, X3, hQ3, st3⟩ := own_callSt X2 hx hZ hown (ow54 hw) (ow55 hw) (ow56 hw) (ow57 hw) (by decide) (rgl2_0 l Z a0 hw [] b cb vf c0_ c1_ h0 n0 Z0 V_b S_f rvf) e2 (W := 0) (by decide) (by decide) (by decide) (by decide) (pc := 12) (ls := #[rv s_, iv 0]) (stk := [(.int 0), (.ref b)]) (by rw [hml]; rfl) (argsL := [(.ref b), (.int 0)]) (rest := []) (lenOf pd9 rfl) rfl rfl (Nat.le_of_eq rfl) (hb hby d10_12)
  obtain ⟨rfl, Nq3, e3⟩ := hQ3
  have N3 := Fr.app N1 Nq3
  refine OGo.st st3 ?_
  show OG p e below Φ T3 m 15 #[rv s_, iv 0] [(.int ((c0_ &&& (255 : Int32)).toUInt32.toUInt16.toUInt32.toInt32))]
  refine OGo.fin X3 hlk (v := (some (.int ((c0_ &&& (255 : Int32)).toUInt32.toUInt16.toUInt32.toInt32)))) (fun h => by rw [hret] at h; cases h) (by decide) (by decide) (fun fs hr => X3.ireturnOut hx hret (XT.narrow_c _) (by simp) (hb hby d10_15) hr) fun U eU hF => hΦ _ _ _ ?_ hF
  rw [eU, e3]
  show Q_rgh2_0 Z s_ b cb qc vf c0_ c1_ h0 n0 _ _ _
  exact ⟨rfl, N3, rfl⟩

theorem ef_rgl2_1 (m : MethodId) (x0 : Addr) (x1 : Int32) : entryFrame m #[(.ref x0), (.int x1)] 2 = mkF m 0 #[.val (.ref x0), .val (.int x1)] [] := by first | (simp [entryFrame, mkF, argsToLocals, Value.category]; done) | rfl
def Q_rgl2_1 (Z : State) (b : Addr) (cb : ClassId) (vf : Value) (c0_ : Int32) (c1_ : Int32) (h0 : Heap) (n0 : Nat) (v : Option Value) (h : Heap) (L : List Loc) : Prop := v = some (.int ((c1_ &&& (255 : Int32)).toUInt32.toUInt16.toUInt32.toInt32)) ∧ Fr n0 L ∧ h = h0
set_option maxRecDepth 65536 in
set_option maxHeartbeats 40000000 in
theorem rgl2_1 (l : Launch) (Z : State) (a0 : Array Value) (hw : ∀ d ∈ tables_1, d.before a0 Z = true) (ws : List Jvm.Cond) (b : Addr) (cb : ClassId) (vf : Value) (c0_ : Int32) (c1_ : Int32) (h0 : Heap) (n0 : Nat) (Z0 : n0 ≤ h0.size) (V_b : Arv Z h0 b cb .byte (2 : Int32) [(.int c0_), (.int c1_)] (.int (0 : Int32))) (S_f : Sta Z h0 "jdk/internal/util/Preconditions" "SIOOBE_FORMATTER" "Ljava/util/function/BiFunction;" vf) (rvf : vf.isRef = true) :
    OCon l Z (⟨"java/lang/StringLatin1", "charAt", "([BI)C"⟩ : MethodName) jdk_43_method_2_code 2 (some .char) ws ({ frames := 2, cells := 0, slots := 0, locals := 27 } : Room) #[(.ref b), (.int (1 : Int32))] h0 (Q_rgl2_1 Z b cb vf c0_ c1_ h0 n0) := by
  refine OCon.of (plainFor_of_name pn5) ?_
  intro p e s m below meth c s₁ Φ X0 hx hby hml hown hnm hret hlk hZ e0 hΦ
  have N0 := Fr.nil n0
  refine OGo.st (fun _ kz => castTop (ef_rgl2_1 m b (1 : Int32)) kz) ?_
  show OG p e below Φ s₁ m 0 #[rv b, iv 1] []
  refine OGo.st (fun _ kz => XS.iloadN X0.here hx rfl (hb hby d12_0) rfl kz) ?_
  show OG p e below Φ s₁ m 1 #[rv b, iv 1] [(.int 1)]
  refine OGo.st (fun _ kz => XS.aloadN X0.here hx rfl (hb hby d12_1) rfl rfl kz) ?_
  show OG p e below Φ s₁ m 2 #[rv b, iv 1] [(.ref b), (.int 1)]
  obtain ⟨cl1, Aq1, -, S1, M1, -, -⟩ := id V_b
  refine OGo.st (fun _ kz => X0.arraylength hx (by rw [e0]; exact Aq1.1) (State.isArrayOf_alike hZ.alike Aq1.2.1) (g := (mkF m 2 #[rv b, iv 1] [(.ref b), (.int 1)])) rfl rfl (hb hby d12_2) _ kz) ?_
  rw [len_of S1 M1]
  show OG p e below Φ s₁ m 3 #[rv b, iv 1] [(.int 2), (.int 1)]
  obtain ⟨_, T2, L2, X2, hQ2, st2⟩ := own_callSt X0 hx hZ hown (ow58 hw) (ow59 hw) (ow8 hw) (ow60 hw) (by decide) (rgci l Z a0 hw [] (1 : Int32) (2 : Int32) vf h0 n0 Z0 (by decide) (by decide) S_f rvf) e0 (W := 0) (by decide) (by decide) (by decide) (by decide) (pc := 3) (ls := #[rv b, iv 1]) (stk := [(.int 2), (.int 1)]) (by rw [hml]; rfl) (argsL := [(.int 1), (.int 2)]) (rest := []) (lenOf pd7 rfl) rfl rfl (Nat.le_of_eq rfl) (hb hby d12_3)
  obtain ⟨rfl, Nq2, e2⟩ := hQ2
  have N2 := Fr.app N0 Nq2
  refine OGo.st st2 ?_
  show OG p e below Φ T2 m 6 #[rv b, iv 1] []
  refine OGo.st (fun _ kz => XS.aloadN X2.here hx rfl (hb hby d12_6) rfl rfl kz) ?_
  show OG p e below Φ T2 m 7 #[rv b, iv 1] [(.ref b)]
  refine OGo.st (fun _ kz => XS.iloadN X2.here hx rfl (hb hby d12_7) rfl kz) ?_
  show OG p e below Φ T2 m 8 #[rv b, iv 1] [(.int 1), (.ref b)]
  obtain ⟨cl3, Aq3, -, S3, M3, H3, -⟩ := id V_b
  have in3 : ¬ ((1 : Int32) < 0 ∨ cl3.slots.size ≤ (1 : Int32).toNatClampNeg) := inb_of S3 ⟨by decide, by decide⟩
  have at3 : cl3.slots[(1 : Int32).toNatClampNeg]? = some (.int c1_) := H3.at in3 rfl
  refine OGo.st (fun _ kz => X2.baloadBytes hx (by rw [e2]; exact Aq3.1) (State.isArrayOf_alike hZ.alike Aq3.2.1) Aq3.2.2 in3 at3 (g := (mkF m 8 #[rv b, iv 1] [(.int 1), (.ref b)])) rfl rfl (hb hby d12_8) _ kz) ?_
  show OG p e below Φ T2 m 9 #[rv b, iv 1] [(.int c1_)]
  refine OGo.st (fun _ kz => XS.sipush X2.here hx rfl (hb hby d12_9) kz) ?_
  show OG p e below Φ T2 m 12 #[rv b, iv 1] [(.int 255), (.int c1_)]
  refine OGo.st (fun _ kz => XS.iand X2.here hx rfl (hb hby d12_12) rfl kz) ?_
  show OG p e below Φ T2 m 13 #[rv b, iv 1] [(.int (c1_ &&& (255 : Int32)))]
  refine OGo.st (fun _ kz => XT.i2c X2.here hx rfl (hb hby d12_13) rfl kz) ?_
  show OG p e below Φ T2 m 14 #[rv b, iv 1] [(.int ((c1_ &&& (255 : Int32)).toUInt32.toUInt16.toUInt32.toInt32))]
  refine OGo.fin X2 hlk (v := (some (.int ((c1_ &&& (255 : Int32)).toUInt32.toUInt16.toUInt32.toInt32)))) (fun h => by rw [hret] at h; cases h) (by decide) (by decide) (fun fs hr => X2.ireturnOut hx hret (XT.narrow_c _) (by simp) (hb hby d12_14) hr) fun U eU hF => hΦ _ _ _ ?_ hF
  rw [eU, e2]
  show Q_rgl2_1 Z b cb vf c0_ c1_ h0 n0 _ _ _
  exact ⟨rfl, N2, rfl⟩

theorem ef_rgh2_1 (m : MethodId) (x0 : Addr) (x1 : Int32) : entryFrame m #[(.ref x0), (.int x1)] 2 = mkF m 0 #[.val (.ref x0), .val (.int x1)] [] := by first | (simp [entryFrame, mkF, argsToLocals, Value.category]; done) | rfl
def Q_rgh2_1 (Z : State) (s_ : Addr) (b : Addr) (cb : ClassId) (qc : Int32) (vf : Value) (c0_ : Int32) (c1_ : Int32) (h0 : Heap) (n0 : Nat) (v : Option Value) (h : Heap) (L : List Loc) : Prop := v = some (.int ((c1_ &&& (255 : Int32)).toUInt32.toUInt16.toUInt32.toInt32)) ∧ Fr n0 L ∧ h = h0
set_option maxRecDepth 65536 in
set_option maxHeartbeats 40000000 in
theorem rgh2_1 (l : Launch) (Z : State) (a0 : Array Value) (hw : ∀ d ∈ tables_1, d.before a0 Z = true) (ws : List Jvm.Cond) (s_ : Addr) (b : Addr) (cb : ClassId) (qc : Int32) (vf : Value) (c0_ : Int32) (c1_ : Int32) (h0 : Heap) (n0 : Nat) (Z0 : n0 ≤ h0.size) (E_s : Exa Z h0 s_ "java/lang/String") (F_v : Fld Z h0 s_ "java/lang/String" "value" "[B" (.ref b)) (F_c : Fld Z h0 s_ "java/lang/String" "coder" "B" (.int (0 : Int32))) (V_b : Arv Z h0 b cb .byte (2 : Int32) [(.int c0_), (.int c1_)] (.int (0 : Int32))) (S_q : Sta Z h0 "java/lang/String" "COMPACT_STRINGS" "Z" (.int qc)) (hq : ¬ qc = 0) (S_f : Sta Z h0 "jdk/internal/util/Preconditions" "SIOOBE_FORMATTER" "Ljava/util/function/BiFunction;" vf) (rvf : vf.isRef = true) :
    OCon l Z (⟨"java/lang/String", "charAt", "(I)C"⟩ : MethodName) jdk_42_method_56_code 2 (some .char) ws ({ frames := 3, cells := 0, slots := 0, locals := 40 } : Room) #[(.ref s_), (.int (1 : Int32))] h0 (Q_rgh2_1 Z s_ b cb qc vf c0_ c1_ h0 n0) := by
  refine OCon.of (plainFor_of_name pn0) ?_
  intro p e s m below meth c s₁ Φ X0 hx hby hml hown hnm hret hlk hZ e0 hΦ
  have N0 := Fr.nil n0
  refine OGo.st (fun _ kz => castTop (ef_rgh2_1 m s_ (1 : Int32)) kz) ?_
  show OG p e below Φ s₁ m 0 #[rv s_, iv 1] []
  refine OGo.st (fun _ kz => XS.aloadN X0.here hx rfl (hb hby d10_0) rfl rfl kz) ?_
  show OG p e below Φ s₁ m 1 #[rv s_, iv 1] [(.ref s_)]
  obtain ⟨_, T1, L1, X1, hQ1, st1⟩ := own_callVi X0 hx hZ hown (ow49 hw) (ow50 hw) (notFace_of_selects (args := #[]) (mvT hZ (ow52 hw))) (ow52 hw) (ow51 hw) (ow8 hw) (ow53 hw) (by decide) (rgis l Z a0 hw [] s_ qc h0 n0 Z0 F_c S_q hq) e0 (W := 0) (by decide) (by decide) (by decide) (by decide) E_s (pc := 1) (ls := #[rv s_, iv 1]) (stk := [(.ref s_)]) (by rw [hml]; rfl) (argsL := []) (rest := []) (lenOf pd8 rfl) rfl rfl (Nat.le_of_eq rfl) (hb hby d10_1)
  obtain ⟨rfl, Nq1, e1⟩ := hQ1
  have N1 := Fr.app N0 Nq1
  refine OGo.st st1 ?_
  show OG p e below Φ T1 m 4 #[rv s_, iv 1] [(.int 1)]
  refine OGo.st (fun _ kz => XS.ifNo X1.here hx rfl (hb hby d10_4) rfl (XT.i0_eq_f (by decide)) kz) ?_
  show OG p e below Φ T1 m 7 #[rv s_, iv 1] []
  refine OGo.st (fun _ kz => XS.aloadN X1.here hx rfl (hb hby d10_7) rfl rfl kz) ?_
  show OG p e below Φ T1 m 8 #[rv s_, iv 1] [(.ref s_)]
  obtain ⟨T2, X2, e2, st2⟩ := getF X1 hx hZ hown (host := "") (Or.inl (ow32 hw)) Via.refl e1 F_v (g := (mkF m 8 #[rv s_, iv 1] [(.ref s_)])) rfl rfl (hb hby d10_8)
  refine OGo.st st2 ?_
  show OG p e below Φ T2 m 11 #[rv s_, iv 1] [(.ref b)]
  refine OGo.st (fun _ kz => XS.iloadN X2.here hx rfl (hb hby d10_11) rfl kz) ?_
  show OG p e below Φ T2 m 12 #[rv s_, iv 1] [(.int 1), (.ref b)]
  obtain ⟨_, T3, L3, X3, hQ3, st3⟩ := own_callSt X2 hx hZ hown (ow54 hw) (ow55 hw) (ow56 hw) (ow57 hw) (by decide) (rgl2_1 l Z a0 hw [] b cb vf c0_ c1_ h0 n0 Z0 V_b S_f rvf) e2 (W := 0) (by decide) (by decide) (by decide) (by decide) (pc := 12) (ls := #[rv s_, iv 1]) (stk := [(.int 1), (.ref b)]) (by rw [hml]; rfl) (argsL := [(.ref b), (.int 1)]) (rest := []) (lenOf pd9 rfl) rfl rfl (Nat.le_of_eq rfl) (hb hby d10_12)
  obtain ⟨rfl, Nq3, e3⟩ := hQ3
  have N3 := Fr.app N1 Nq3
  refine OGo.st st3 ?_
  show OG p e below Φ T3 m 15 #[rv s_, iv 1] [(.int ((c1_ &&& (255 : Int32)).toUInt32.toUInt16.toUInt32.toInt32))]
  refine OGo.fin X3 hlk (v := (some (.int ((c1_ &&& (255 : Int32)).toUInt32.toUInt16.toUInt32.toInt32)))) (fun h => by rw [hret] at h; cases h) (by decide) (by decide) (fun fs hr => X3.ireturnOut hx hret (XT.narrow_c _) (by simp) (hb hby d10_15) hr) fun U eU hF => hΦ _ _ _ ?_ hF
  rw [eU, e3]
  show Q_rgh2_1 Z s_ b cb qc vf c0_ c1_ h0 n0 _ _ _
  exact ⟨rfl, N3, rfl⟩

theorem ef_rs4c2 (m : MethodId) (x0 : Addr) (x1 : Int32) (x2 : Addr) (x3 : Int32) (x4 : Int32) : entryFrame m #[(.ref x0), (.int x1), (.ref x2), (.int x3), (.int x4)] 7 = mkF m 0 #[.val (.ref x0), .val (.int x1), .val (.ref x2), .val (.int x3), .val (.int x4), .unset, .unset] [] := by first | (simp [entryFrame, mkF, argsToLocals, Value.category]; done) | rfl
def Q_rs4c2 (Z : State) (a : Addr) (ca : ClassId) (b : Addr) (cb : ClassId) (c0_ : Int32) (c1_ : Int32) (c2_ : Int32) (c3_ : Int32) (h0 : Heap) (n0 : Nat) (v : Option Value) (h : Heap) (L : List Loc) : Prop := v = some (.int (4 : Int32)) ∧ Fr n0 L ∧ Keep h0 h [b] ∧ Arv Z h b cb .byte (4 : Int32) [(.int (nar .byte (c0_.toInt8.toInt32))), (.int (nar .byte (c1_.toInt8.toInt32))), (.int (nar .byte (c2_.toInt8.toInt32))), (.int (nar .byte (c3_.toInt8.toInt32)))] (.int (0 : Int32))
set_option maxRecDepth 65536 in
set_option maxHeartbeats 40000000 in
theorem rs4c2 (l : Launch) (Z : State) (a0 : Array Value) (hw : ∀ d ∈ tables_1, d.before a0 Z = true) (ws : List Jvm.Cond) (a : Addr) (ca : ClassId) (b : Addr) (cb : ClassId) (c0_ : Int32) (c1_ : Int32) (c2_ : Int32) (c3_ : Int32) (h0 : Heap) (n0 : Nat) (Z0 : n0 ≤ h0.size) (V_a : Arv Z h0 a ca .char (4 : Int32) [(.int c0_), (.int c1_), (.int c2_), (.int c3_)] (.int (0 : Int32))) (V_b : Arv Z h0 b cb .byte (4 : Int32) [(.int (0 : Int32)), (.int (0 : Int32)), (.int (0 : Int32)), (.int (0 : Int32))] (.int (0 : Int32))) (nab : a ≠ b) (g_b : n0 ≤ b) (hl0 : ¬ (255 : Int32) < c0_) (hl1 : ¬ (255 : Int32) < c1_) (hl2 : ¬ (255 : Int32) < c2_) (hl3 : ¬ (255 : Int32) < c3_) :
    OCon l Z (⟨"java/lang/StringUTF16", "compress", "([CI[BII)I"⟩ : MethodName) jdk_52_method_21_code 7 (some .int) ws ({ frames := 0, cells := 0, slots := 0, locals := 0 } : Room) #[(.ref a), (.int (0 : Int32)), (.ref b), (.int (0 : Int32)), (.int (4 : Int32))] h0 (Q_rs4c2 Z a ca b cb c0_ c1_ c2_ c3_ h0 n0) := by
  refine OCon.of (plainFor_of_name pn3) ?_
  intro p e s m below meth c s₁ Φ X0 hx hby hml hown hnm hret hlk hZ e0 hΦ
  have N0 := Fr.nil n0
  refine OGo.st (fun _ kz => castTop (ef_rs4c2 m a (0 : Int32) b (0 : Int32) (4 : Int32)) kz) ?_
  have K0 := Keep.refl h0 [b]
  show OG p e below Φ s₁ m 0 #[rv a, iv 0, rv b, iv 0, iv 4, .unset, .unset] []
  refine OGo.st (fun _ kz => XS.iconst X0.here hx rfl (hb hby d6_0) kz) ?_
  show OG p e below Φ s₁ m 1 #[rv a, iv 0, rv b, iv 0, iv 4, .unset, .unset] [(.int 0)]
  refine OGo.st (fun _ kz => XS.istore X0.here hx rfl (hb hby d6_1) rfl (l' := #[rv a, iv 0, rv b, iv 0, iv 4, iv 0, .unset]) rfl kz) ?_
  show OG p e below Φ s₁ m 3 #[rv a, iv 0, rv b, iv 0, iv 4, iv 0, .unset] []
  refine OGo.st (fun _ kz => XS.iload X0.here hx rfl (hb hby d6_3) rfl kz) ?_
  show OG p e below Φ s₁ m 5 #[rv a, iv 0, rv b, iv 0, iv 4, iv 0, .unset] [(.int 0)]
  refine OGo.st (fun _ kz => XS.iload X0.here hx rfl (hb hby d6_5) rfl kz) ?_
  show OG p e below Φ s₁ m 7 #[rv a, iv 0, rv b, iv 0, iv 4, iv 0, .unset] [(.int 4), (.int 0)]
  refine OGo.st (fun _ kz => XS.icmpNo X0.here hx rfl (hb hby d6_7) rfl (XT.ii_ge_f (by decide)) kz) ?_
  show OG p e below Φ s₁ m 10 #[rv a, iv 0, rv b, iv 0, iv 4, iv 0, .unset] []
  refine OGo.st (fun _ kz => XS.aloadN X0.here hx rfl (hb hby d6_10) rfl rfl kz) ?_
  show OG p e below Φ s₁ m 11 #[rv a, iv 0, rv b, iv 0, iv 4, iv 0, .unset] [(.ref a)]
  refine OGo.st (fun _ kz => XS.iloadN X0.here hx rfl (hb hby d6_11) rfl kz) ?_
  show OG p e below Φ s₁ m 12 #[rv a, iv 0, rv b, iv 0, iv 4, iv 0, .unset] [(.int 0), (.ref a)]
  obtain ⟨cl1, Aq1, -, S1, M1, H1, -⟩ := id V_a
  have in1 : ¬ ((0 : Int32) < 0 ∨ cl1.slots.size ≤ (0 : Int32).toNatClampNeg) := inb_of S1 ⟨by decide, by decide⟩
  have at1 : cl1.slots[(0 : Int32).toNatClampNeg]? = some (.int c0_) := H1.at in1 rfl
  refine OGo.st (fun _ kz => X0.caload hx (by rw [e0]; exact Aq1.1) (State.isArrayOf_alike hZ.alike Aq1.2.1) Aq1.2.2 in1 at1 (g := (mkF m 12 #[rv a, iv 0, rv b, iv 0, iv 4, iv 0, .unset] [(.int 0), (.ref a)])) rfl rfl (hb hby d6_12) _ kz) ?_
  show OG p e below Φ s₁ m 13 #[rv a, iv 0, rv b, iv 0, iv 4, iv 0, .unset] [(.int c0_)]
  refine OGo.st (fun _ kz => XS.istore X0.here hx rfl (hb hby d6_13) rfl (l' := #[rv a, iv 0, rv b, iv 0, iv 4, iv 0, iv c0_]) rfl kz) ?_
  show OG p e below Φ s₁ m 15 #[rv a, iv 0, rv b, iv 0, iv 4, iv 0, iv c0_] []
  refine OGo.st (fun _ kz => XS.iload X0.here hx rfl (hb hby d6_15) rfl kz) ?_
  show OG p e below Φ s₁ m 17 #[rv a, iv 0, rv b, iv 0, iv 4, iv 0, iv c0_] [(.int c0_)]
  refine OGo.st (fun _ kz => XS.sipush X0.here hx rfl (hb hby d6_17) kz) ?_
  show OG p e below Φ s₁ m 20 #[rv a, iv 0, rv b, iv 0, iv 4, iv 0, iv c0_] [(.int 255), (.int c0_)]
  refine OGo.st (fun _ kz => XS.icmpYes X0.here hx rfl (pc0 := 20) (pc' := 26) rfl (hb hby d6_20) rfl (XT.ii_le_t hl0) (by decide) (by decide) kz) ?_
  show OG p e below Φ s₁ m 26 #[rv a, iv 0, rv b, iv 0, iv 4, iv 0, iv c0_] []
  refine OGo.st (fun _ kz => XS.aloadN X0.here hx rfl (hb hby d6_26) rfl rfl kz) ?_
  show OG p e below Φ s₁ m 27 #[rv a, iv 0, rv b, iv 0, iv 4, iv 0, iv c0_] [(.ref b)]
  refine OGo.st (fun _ kz => XS.iloadN X0.here hx rfl (hb hby d6_27) rfl kz) ?_
  show OG p e below Φ s₁ m 28 #[rv a, iv 0, rv b, iv 0, iv 4, iv 0, iv c0_] [(.int 0), (.ref b)]
  refine OGo.st (fun _ kz => XS.iload X0.here hx rfl (hb hby d6_28) rfl kz) ?_
  show OG p e below Φ s₁ m 30 #[rv a, iv 0, rv b, iv 0, iv 4, iv 0, iv c0_] [(.int c0_), (.int 0), (.ref b)]
  refine OGo.st (fun _ kz => XT.i2b X0.here hx rfl (hb hby d6_30) rfl kz) ?_
  show OG p e below Φ s₁ m 31 #[rv a, iv 0, rv b, iv 0, iv 4, iv 0, iv c0_] [(.int (c0_.toInt8.toInt32)), (.int 0), (.ref b)]
  obtain ⟨cl2, Aq2, Cq2, S2, M2, H2, G2⟩ := id V_b
  have in2 : ¬ ((0 : Int32) < 0 ∨ cl2.slots.size ≤ (0 : Int32).toNatClampNeg) := inb_of S2 ⟨by decide, by decide⟩
  obtain ⟨T2, h2, X2, e2, W2, st2⟩ := stB X0 hx hZ e0 Aq2 in2 (g := (mkF m 31 #[rv a, iv 0, rv b, iv 0, iv 4, iv 0, iv c0_] [(.int (c0_.toInt8.toInt32)), (.int 0), (.ref b)])) rfl rfl (hb hby d6_31)
  have W2 : Wr h0 h2 b (0 : Int32).toNatClampNeg (.int (nar .byte (c0_.toInt8.toInt32))) := W2
  have F3 := V_a.other W2 nab
  have V2 : Arv Z h2 b cb .byte (4 : Int32) [(.int (nar .byte (c0_.toInt8.toInt32))), (.int (0 : Int32)), (.int (0 : Int32)), (.int (0 : Int32))] (.int (0 : Int32)) := Arv.set Aq2 Cq2 S2 M2 H2 G2 (fits_nar_byte _) W2 0 (by decide) (by show 0 < 4; decide)
  have K2 := K0.wr W2 (Or.inl (List.mem_of_getElem? (i := 0) rfl))
  have N2 := Fr.snoc X2 N0 g_b
  have Zs2 : n0 ≤ h2.size := by rw [W2.size]; exact Z0
  refine OGo.st st2 ?_
  show OG p e below Φ T2 m 32 #[rv a, iv 0, rv b, iv 0, iv 4, iv 0, iv c0_] []
  refine OGo.st (fun _ kz => XS.iinc X2.here hx rfl (hb hby d6_32) rfl (l' := #[rv a, iv ((0 : Int32) + (1 : Int32)), rv b, iv 0, iv 4, iv 0, iv c0_]) rfl kz) ?_
  show OG p e below Φ T2 m 35 #[rv a, iv 1, rv b, iv 0, iv 4, iv 0, iv c0_] []
  refine OGo.st (fun _ kz => XS.iinc X2.here hx rfl (hb hby d6_35) rfl (l' := #[rv a, iv 1, rv b, iv ((0 : Int32) + (1 : Int32)), iv 4, iv 0, iv c0_]) rfl kz) ?_
  show OG p e below Φ T2 m 38 #[rv a, iv 1, rv b, iv 1, iv 4, iv 0, iv c0_] []
  refine OGo.st (fun _ kz => XS.iinc X2.here hx rfl (hb hby d6_38) rfl (l' := #[rv a, iv 1, rv b, iv 1, iv 4, iv ((0 : Int32) + (1 : Int32)), iv c0_]) rfl kz) ?_
  show OG p e below Φ T2 m 41 #[rv a, iv 1, rv b, iv 1, iv 4, iv 1, iv c0_] []
  refine OGo.st (fun _ kz => XS.goto X2.here hx rfl (pc0 := 41) (pc' := 3) rfl (hb hby d6_41) (by decide) (by decide) kz) ?_
  show OG p e below Φ T2 m 3 #[rv a, iv 1, rv b, iv 1, iv 4, iv 1, iv c0_] []
  refine OGo.st (fun _ kz => XS.iload X2.here hx rfl (hb hby d6_3) rfl kz) ?_
  show OG p e below Φ T2 m 5 #[rv a, iv 1, rv b, iv 1, iv 4, iv 1, iv c0_] [(.int 1)]
  refine OGo.st (fun _ kz => XS.iload X2.here hx rfl (hb hby d6_5) rfl kz) ?_
  show OG p e below Φ T2 m 7 #[rv a, iv 1, rv b, iv 1, iv 4, iv 1, iv c0_] [(.int 4), (.int 1)]
  refine OGo.st (fun _ kz => XS.icmpNo X2.here hx rfl (hb hby d6_7) rfl (XT.ii_ge_f (by decide)) kz) ?_
  show OG p e below Φ T2 m 10 #[rv a, iv 1, rv b, iv 1, iv 4, iv 1, iv c0_] []
  refine OGo.st (fun _ kz => XS.aloadN X2.here hx rfl (hb hby d6_10) rfl rfl kz) ?_
  show OG p e below Φ T2 m 11 #[rv a, iv 1, rv b, iv 1, iv 4, iv 1, iv c0_] [(.ref a)]
  refine OGo.st (fun _ kz => XS.iloadN X2.here hx rfl (hb hby d6_11) rfl kz) ?_
  show OG p e below Φ T2 m 12 #[rv a, iv 1, rv b, iv 1, iv 4, iv 1, iv c0_] [(.int 1), (.ref a)]
  obtain ⟨cl4, Aq4, -, S4, M4, H4, -⟩ := id F3
  have in4 : ¬ ((1 : Int32) < 0 ∨ cl4.slots.size ≤ (1 : Int32).toNatClampNeg) := inb_of S4 ⟨by decide, by decide⟩
  have at4 : cl4.slots[(1 : Int32).toNatClampNeg]? = some (.int c1_) := H4.at in4 rfl
  refine OGo.st (fun _ kz => X2.caload hx (by rw [e2]; exact Aq4.1) (State.isArrayOf_alike hZ.alike Aq4.2.1) Aq4.2.2 in4 at4 (g := (mkF m 12 #[rv a, iv 1, rv b, iv 1, iv 4, iv 1, iv c0_] [(.int 1), (.ref a)])) rfl rfl (hb hby d6_12) _ kz) ?_
  show OG p e below Φ T2 m 13 #[rv a, iv 1, rv b, iv 1, iv 4, iv 1, iv c0_] [(.int c1_)]
  refine OGo.st (fun _ kz => XS.istore X2.here hx rfl (hb hby d6_13) rfl (l' := #[rv a, iv 1, rv b, iv 1, iv 4, iv 1, iv c1_]) rfl kz) ?_
  show OG p e below Φ T2 m 15 #[rv a, iv 1, rv b, iv 1, iv 4, iv 1, iv c1_] []
  refine OGo.st (fun _ kz => XS.iload X2.here hx rfl (hb hby d6_15) rfl kz) ?_
  show OG p e below Φ T2 m 17 #[rv a, iv 1, rv b, iv 1, iv 4, iv 1, iv c1_] [(.int c1_)]
  refine OGo.st (fun _ kz => XS.sipush X2.here hx rfl (hb hby d6_17) kz) ?_
  show OG p e below Φ T2 m 20 #[rv a, iv 1, rv b, iv 1, iv 4, iv 1, iv c1_] [(.int 255), (.int c1_)]
  refine OGo.st (fun _ kz => XS.icmpYes X2.here hx rfl (pc0 := 20) (pc' := 26) rfl (hb hby d6_20) rfl (XT.ii_le_t hl1) (by decide) (by decide) kz) ?_
  show OG p e below Φ T2 m 26 #[rv a, iv 1, rv b, iv 1, iv 4, iv 1, iv c1_] []
  refine OGo.st (fun _ kz => XS.aloadN X2.here hx rfl (hb hby d6_26) rfl rfl kz) ?_
  show OG p e below Φ T2 m 27 #[rv a, iv 1, rv b, iv 1, iv 4, iv 1, iv c1_] [(.ref b)]
  refine OGo.st (fun _ kz => XS.iloadN X2.here hx rfl (hb hby d6_27) rfl kz) ?_
  show OG p e below Φ T2 m 28 #[rv a, iv 1, rv b, iv 1, iv 4, iv 1, iv c1_] [(.int 1), (.ref b)]
  refine OGo.st (fun _ kz => XS.iload X2.here hx rfl (hb hby d6_28) rfl kz) ?_
  show OG p e below Φ T2 m 30 #[rv a, iv 1, rv b, iv 1, iv 4, iv 1, iv c1_] [(.int c1_), (.int 1), (.ref b)]
  refine OGo.st (fun _ kz => XT.i2b X2.here hx rfl (hb hby d6_30) rfl kz) ?_
  show OG p e below Φ T2 m 31 #[rv a, iv 1, rv b, iv 1, iv 4, iv 1, iv c1_] [(.int (c1_.toInt8.toInt32)), (.int 1), (.ref b)]
  obtain ⟨cl5, Aq5, Cq5, S5, M5, H5, G5⟩ := id V2
  have in5 : ¬ ((1 : Int32) < 0 ∨ cl5.slots.size ≤ (1 : Int32).toNatClampNeg) := inb_of S5 ⟨by decide, by decide⟩
  obtain ⟨T5, h5, X5, e5, W5, st5⟩ := stB X2 hx hZ e2 Aq5 in5 (g := (mkF m 31 #[rv a, iv 1, rv b, iv 1, iv 4, iv 1, iv c1_] [(.int (c1_.toInt8.toInt32)), (.int 1), (.ref b)])) rfl rfl (hb hby d6_31)
  have W5 : Wr h2 h5 b (1 : Int32).toNatClampNeg (.int (nar .byte (c1_.toInt8.toInt32))) := W5
  have F6 := F3.other W5 nab
  have V5 : Arv Z h5 b cb .byte (4 : Int32) [(.int (nar .byte (c0_.toInt8.toInt32))), (.int (nar .byte (c1_.toInt8.toInt32))), (.int (0 : Int32)), (.int (0 : Int32))] (.int (0 : Int32)) := Arv.set Aq5 Cq5 S5 M5 H5 G5 (fits_nar_byte _) W5 1 (by decide) (by show 1 < 4; decide)
  have K5 := K2.wr W5 (Or.inl (List.mem_of_getElem? (i := 0) rfl))
  have N5 := Fr.snoc X5 N2 g_b
  have Zs5 : n0 ≤ h5.size := by rw [W5.size]; exact Zs2
  refine OGo.st st5 ?_
  show OG p e below Φ T5 m 32 #[rv a, iv 1, rv b, iv 1, iv 4, iv 1, iv c1_] []
  refine OGo.st (fun _ kz => XS.iinc X5.here hx rfl (hb hby d6_32) rfl (l' := #[rv a, iv ((1 : Int32) + (1 : Int32)), rv b, iv 1, iv 4, iv 1, iv c1_]) rfl kz) ?_
  show OG p e below Φ T5 m 35 #[rv a, iv 2, rv b, iv 1, iv 4, iv 1, iv c1_] []
  refine OGo.st (fun _ kz => XS.iinc X5.here hx rfl (hb hby d6_35) rfl (l' := #[rv a, iv 2, rv b, iv ((1 : Int32) + (1 : Int32)), iv 4, iv 1, iv c1_]) rfl kz) ?_
  show OG p e below Φ T5 m 38 #[rv a, iv 2, rv b, iv 2, iv 4, iv 1, iv c1_] []
  refine OGo.st (fun _ kz => XS.iinc X5.here hx rfl (hb hby d6_38) rfl (l' := #[rv a, iv 2, rv b, iv 2, iv 4, iv ((1 : Int32) + (1 : Int32)), iv c1_]) rfl kz) ?_
  show OG p e below Φ T5 m 41 #[rv a, iv 2, rv b, iv 2, iv 4, iv 2, iv c1_] []
  refine OGo.st (fun _ kz => XS.goto X5.here hx rfl (pc0 := 41) (pc' := 3) rfl (hb hby d6_41) (by decide) (by decide) kz) ?_
  show OG p e below Φ T5 m 3 #[rv a, iv 2, rv b, iv 2, iv 4, iv 2, iv c1_] []
  refine OGo.st (fun _ kz => XS.iload X5.here hx rfl (hb hby d6_3) rfl kz) ?_
  show OG p e below Φ T5 m 5 #[rv a, iv 2, rv b, iv 2, iv 4, iv 2, iv c1_] [(.int 2)]
  refine OGo.st (fun _ kz => XS.iload X5.here hx rfl (hb hby d6_5) rfl kz) ?_
  show OG p e below Φ T5 m 7 #[rv a, iv 2, rv b, iv 2, iv 4, iv 2, iv c1_] [(.int 4), (.int 2)]
  refine OGo.st (fun _ kz => XS.icmpNo X5.here hx rfl (hb hby d6_7) rfl (XT.ii_ge_f (by decide)) kz) ?_
  show OG p e below Φ T5 m 10 #[rv a, iv 2, rv b, iv 2, iv 4, iv 2, iv c1_] []
  refine OGo.st (fun _ kz => XS.aloadN X5.here hx rfl (hb hby d6_10) rfl rfl kz) ?_
  show OG p e below Φ T5 m 11 #[rv a, iv 2, rv b, iv 2, iv 4, iv 2, iv c1_] [(.ref a)]
  refine OGo.st (fun _ kz => XS.iloadN X5.here hx rfl (hb hby d6_11) rfl kz) ?_
  show OG p e below Φ T5 m 12 #[rv a, iv 2, rv b, iv 2, iv 4, iv 2, iv c1_] [(.int 2), (.ref a)]
  obtain ⟨cl7, Aq7, -, S7, M7, H7, -⟩ := id F6
  have in7 : ¬ ((2 : Int32) < 0 ∨ cl7.slots.size ≤ (2 : Int32).toNatClampNeg) := inb_of S7 ⟨by decide, by decide⟩
  have at7 : cl7.slots[(2 : Int32).toNatClampNeg]? = some (.int c2_) := H7.at in7 rfl
  refine OGo.st (fun _ kz => X5.caload hx (by rw [e5]; exact Aq7.1) (State.isArrayOf_alike hZ.alike Aq7.2.1) Aq7.2.2 in7 at7 (g := (mkF m 12 #[rv a, iv 2, rv b, iv 2, iv 4, iv 2, iv c1_] [(.int 2), (.ref a)])) rfl rfl (hb hby d6_12) _ kz) ?_
  show OG p e below Φ T5 m 13 #[rv a, iv 2, rv b, iv 2, iv 4, iv 2, iv c1_] [(.int c2_)]
  refine OGo.st (fun _ kz => XS.istore X5.here hx rfl (hb hby d6_13) rfl (l' := #[rv a, iv 2, rv b, iv 2, iv 4, iv 2, iv c2_]) rfl kz) ?_
  show OG p e below Φ T5 m 15 #[rv a, iv 2, rv b, iv 2, iv 4, iv 2, iv c2_] []
  refine OGo.st (fun _ kz => XS.iload X5.here hx rfl (hb hby d6_15) rfl kz) ?_
  show OG p e below Φ T5 m 17 #[rv a, iv 2, rv b, iv 2, iv 4, iv 2, iv c2_] [(.int c2_)]
  refine OGo.st (fun _ kz => XS.sipush X5.here hx rfl (hb hby d6_17) kz) ?_
  show OG p e below Φ T5 m 20 #[rv a, iv 2, rv b, iv 2, iv 4, iv 2, iv c2_] [(.int 255), (.int c2_)]
  refine OGo.st (fun _ kz => XS.icmpYes X5.here hx rfl (pc0 := 20) (pc' := 26) rfl (hb hby d6_20) rfl (XT.ii_le_t hl2) (by decide) (by decide) kz) ?_
  show OG p e below Φ T5 m 26 #[rv a, iv 2, rv b, iv 2, iv 4, iv 2, iv c2_] []
  refine OGo.st (fun _ kz => XS.aloadN X5.here hx rfl (hb hby d6_26) rfl rfl kz) ?_
  show OG p e below Φ T5 m 27 #[rv a, iv 2, rv b, iv 2, iv 4, iv 2, iv c2_] [(.ref b)]
  refine OGo.st (fun _ kz => XS.iloadN X5.here hx rfl (hb hby d6_27) rfl kz) ?_
  show OG p e below Φ T5 m 28 #[rv a, iv 2, rv b, iv 2, iv 4, iv 2, iv c2_] [(.int 2), (.ref b)]
  refine OGo.st (fun _ kz => XS.iload X5.here hx rfl (hb hby d6_28) rfl kz) ?_
  show OG p e below Φ T5 m 30 #[rv a, iv 2, rv b, iv 2, iv 4, iv 2, iv c2_] [(.int c2_), (.int 2), (.ref b)]
  refine OGo.st (fun _ kz => XT.i2b X5.here hx rfl (hb hby d6_30) rfl kz) ?_
  show OG p e below Φ T5 m 31 #[rv a, iv 2, rv b, iv 2, iv 4, iv 2, iv c2_] [(.int (c2_.toInt8.toInt32)), (.int 2), (.ref b)]
  obtain ⟨cl8, Aq8, Cq8, S8, M8, H8, G8⟩ := id V5
  have in8 : ¬ ((2 : Int32) < 0 ∨ cl8.slots.size ≤ (2 : Int32).toNatClampNeg) := inb_of S8 ⟨by decide, by decide⟩
  obtain ⟨T8, h8, X8, e8, W8, st8⟩ := stB X5 hx hZ e5 Aq8 in8 (g := (mkF m 31 #[rv a, iv 2, rv b, iv 2, iv 4, iv 2, iv c2_] [(.int (c2_.toInt8.toInt32)), (.int 2), (.ref b)])) rfl rfl (hb hby d6_31)
  have W8 : Wr h5 h8 b (2 : Int32).toNatClampNeg (.int (nar .byte (c2_.toInt8.toInt32))) := W8
  have F9 := F6.other W8 nab
  have V8 : Arv Z h8 b cb .byte (4 : Int32) [(.int (nar .byte (c0_.toInt8.toInt32))), (.int (nar .byte (c1_.toInt8.toInt32))), (.int (nar .byte (c2_.toInt8.toInt32))), (.int (0 : Int32))] (.int (0 : Int32)) := Arv.set Aq8 Cq8 S8 M8 H8 G8 (fits_nar_byte _) W8 2 (by decide) (by show 2 < 4; decide)
  have K8 := K5.wr W8 (Or.inl (List.mem_of_getElem? (i := 0) rfl))
  have N8 := Fr.snoc X8 N5 g_b
  have Zs8 : n0 ≤ h8.size := by rw [W8.size]; exact Zs5
  refine OGo.st st8 ?_
  show OG p e below Φ T8 m 32 #[rv a, iv 2, rv b, iv 2, iv 4, iv 2, iv c2_] []
  refine OGo.st (fun _ kz => XS.iinc X8.here hx rfl (hb hby d6_32) rfl (l' := #[rv a, iv ((2 : Int32) + (1 : Int32)), rv b, iv 2, iv 4, iv 2, iv c2_]) rfl kz) ?_
  show OG p e below Φ T8 m 35 #[rv a, iv 3, rv b, iv 2, iv 4, iv 2, iv c2_] []
  refine OGo.st (fun _ kz => XS.iinc X8.here hx rfl (hb hby d6_35) rfl (l' := #[rv a, iv 3, rv b, iv ((2 : Int32) + (1 : Int32)), iv 4, iv 2, iv c2_]) rfl kz) ?_
  show OG p e below Φ T8 m 38 #[rv a, iv 3, rv b, iv 3, iv 4, iv 2, iv c2_] []
  refine OGo.st (fun _ kz => XS.iinc X8.here hx rfl (hb hby d6_38) rfl (l' := #[rv a, iv 3, rv b, iv 3, iv 4, iv ((2 : Int32) + (1 : Int32)), iv c2_]) rfl kz) ?_
  show OG p e below Φ T8 m 41 #[rv a, iv 3, rv b, iv 3, iv 4, iv 3, iv c2_] []
  refine OGo.st (fun _ kz => XS.goto X8.here hx rfl (pc0 := 41) (pc' := 3) rfl (hb hby d6_41) (by decide) (by decide) kz) ?_
  show OG p e below Φ T8 m 3 #[rv a, iv 3, rv b, iv 3, iv 4, iv 3, iv c2_] []
  refine OGo.st (fun _ kz => XS.iload X8.here hx rfl (hb hby d6_3) rfl kz) ?_
  show OG p e below Φ T8 m 5 #[rv a, iv 3, rv b, iv 3, iv 4, iv 3, iv c2_] [(.int 3)]
  refine OGo.st (fun _ kz => XS.iload X8.here hx rfl (hb hby d6_5) rfl kz) ?_
  show OG p e below Φ T8 m 7 #[rv a, iv 3, rv b, iv 3, iv 4, iv 3, iv c2_] [(.int 4), (.int 3)]
  refine OGo.st (fun _ kz => XS.icmpNo X8.here hx rfl (hb hby d6_7) rfl (XT.ii_ge_f (by decide)) kz) ?_
  show OG p e below Φ T8 m 10 #[rv a, iv 3, rv b, iv 3, iv 4, iv 3, iv c2_] []
  refine OGo.st (fun _ kz => XS.aloadN X8.here hx rfl (hb hby d6_10) rfl rfl kz) ?_
  show OG p e below Φ T8 m 11 #[rv a, iv 3, rv b, iv 3, iv 4, iv 3, iv c2_] [(.ref a)]
  refine OGo.st (fun _ kz => XS.iloadN X8.here hx rfl (hb hby d6_11) rfl kz) ?_
  show OG p e below Φ T8 m 12 #[rv a, iv 3, rv b, iv 3, iv 4, iv 3, iv c2_] [(.int 3), (.ref a)]
  obtain ⟨cl10, Aq10, -, S10, M10, H10, -⟩ := id F9
  have in10 : ¬ ((3 : Int32) < 0 ∨ cl10.slots.size ≤ (3 : Int32).toNatClampNeg) := inb_of S10 ⟨by decide, by decide⟩
  have at10 : cl10.slots[(3 : Int32).toNatClampNeg]? = some (.int c3_) := H10.at in10 rfl
  refine OGo.st (fun _ kz => X8.caload hx (by rw [e8]; exact Aq10.1) (State.isArrayOf_alike hZ.alike Aq10.2.1) Aq10.2.2 in10 at10 (g := (mkF m 12 #[rv a, iv 3, rv b, iv 3, iv 4, iv 3, iv c2_] [(.int 3), (.ref a)])) rfl rfl (hb hby d6_12) _ kz) ?_
  show OG p e below Φ T8 m 13 #[rv a, iv 3, rv b, iv 3, iv 4, iv 3, iv c2_] [(.int c3_)]
  refine OGo.st (fun _ kz => XS.istore X8.here hx rfl (hb hby d6_13) rfl (l' := #[rv a, iv 3, rv b, iv 3, iv 4, iv 3, iv c3_]) rfl kz) ?_
  show OG p e below Φ T8 m 15 #[rv a, iv 3, rv b, iv 3, iv 4, iv 3, iv c3_] []
  refine OGo.st (fun _ kz => XS.iload X8.here hx rfl (hb hby d6_15) rfl kz) ?_
  show OG p e below Φ T8 m 17 #[rv a, iv 3, rv b, iv 3, iv 4, iv 3, iv c3_] [(.int c3_)]
  refine OGo.st (fun _ kz => XS.sipush X8.here hx rfl (hb hby d6_17) kz) ?_
  show OG p e below Φ T8 m 20 #[rv a, iv 3, rv b, iv 3, iv 4, iv 3, iv c3_] [(.int 255), (.int c3_)]
  refine OGo.st (fun _ kz => XS.icmpYes X8.here hx rfl (pc0 := 20) (pc' := 26) rfl (hb hby d6_20) rfl (XT.ii_le_t hl3) (by decide) (by decide) kz) ?_
  show OG p e below Φ T8 m 26 #[rv a, iv 3, rv b, iv 3, iv 4, iv 3, iv c3_] []
  refine OGo.st (fun _ kz => XS.aloadN X8.here hx rfl (hb hby d6_26) rfl rfl kz) ?_
  show OG p e below Φ T8 m 27 #[rv a, iv 3, rv b, iv 3, iv 4, iv 3, iv c3_] [(.ref b)]
  refine OGo.st (fun _ kz => XS.iloadN X8.here hx rfl (hb hby d6_27) rfl kz) ?_
  show OG p e below Φ T8 m 28 #[rv a, iv 3, rv b, iv 3, iv 4, iv 3, iv c3_] [(.int 3), (.ref b)]
  refine OGo.st (fun _ kz => XS.iload X8.here hx rfl (hb hby d6_28) rfl kz) ?_
  show OG p e below Φ T8 m 30 #[rv a, iv 3, rv b, iv 3, iv 4, iv 3, iv c3_] [(.int c3_), (.int 3), (.ref b)]
  refine OGo.st (fun _ kz => XT.i2b X8.here hx rfl (hb hby d6_30) rfl kz) ?_
  show OG p e below Φ T8 m 31 #[rv a, iv 3, rv b, iv 3, iv 4, iv 3, iv c3_] [(.int (c3_.toInt8.toInt32)), (.int 3), (.ref b)]
  obtain ⟨cl11, Aq11, Cq11, S11, M11, H11, G11⟩ := id V8
  have in11 : ¬ ((3 : Int32) < 0 ∨ cl11.slots.size ≤ (3 : Int32).toNatClampNeg) := inb_of S11 ⟨by decide, by decide⟩
  obtain ⟨T11, h11, X11, e11, W11, st11⟩ := stB X8 hx hZ e8 Aq11 in11 (g := (mkF m 31 #[rv a, iv 3, rv b, iv 3, iv 4, iv 3, iv c3_] [(.int (c3_.toInt8.toInt32)), (.int 3), (.ref b)])) rfl rfl (hb hby d6_31)
  have W11 : Wr h8 h11 b (3 : Int32).toNatClampNeg (.int (nar .byte (c3_.toInt8.toInt32))) := W11
  have F12 := F9.other W11 nab
  have V11 : Arv Z h11 b cb .byte (4 : Int32) [(.int (nar .byte (c0_.toInt8.toInt32))), (.int (nar .byte (c1_.toInt8.toInt32))), (.int (nar .byte (c2_.toInt8.toInt32))), (.int (nar .byte (c3_.toInt8.toInt32)))] (.int (0 : Int32)) := Arv.set Aq11 Cq11 S11 M11 H11 G11 (fits_nar_byte _) W11 3 (by decide) (by show 3 < 4; decide)
  have K11 := K8.wr W11 (Or.inl (List.mem_of_getElem? (i := 0) rfl))
  have N11 := Fr.snoc X11 N8 g_b
  have Zs11 : n0 ≤ h11.size := by rw [W11.size]; exact Zs8
  refine OGo.st st11 ?_
  show OG p e below Φ T11 m 32 #[rv a, iv 3, rv b, iv 3, iv 4, iv 3, iv c3_] []
  refine OGo.st (fun _ kz => XS.iinc X11.here hx rfl (hb hby d6_32) rfl (l' := #[rv a, iv ((3 : Int32) + (1 : Int32)), rv b, iv 3, iv 4, iv 3, iv c3_]) rfl kz) ?_
  show OG p e below Φ T11 m 35 #[rv a, iv 4, rv b, iv 3, iv 4, iv 3, iv c3_] []
  refine OGo.st (fun _ kz => XS.iinc X11.here hx rfl (hb hby d6_35) rfl (l' := #[rv a, iv 4, rv b, iv ((3 : Int32) + (1 : Int32)), iv 4, iv 3, iv c3_]) rfl kz) ?_
  show OG p e below Φ T11 m 38 #[rv a, iv 4, rv b, iv 4, iv 4, iv 3, iv c3_] []
  refine OGo.st (fun _ kz => XS.iinc X11.here hx rfl (hb hby d6_38) rfl (l' := #[rv a, iv 4, rv b, iv 4, iv 4, iv ((3 : Int32) + (1 : Int32)), iv c3_]) rfl kz) ?_
  show OG p e below Φ T11 m 41 #[rv a, iv 4, rv b, iv 4, iv 4, iv 4, iv c3_] []
  refine OGo.st (fun _ kz => XS.goto X11.here hx rfl (pc0 := 41) (pc' := 3) rfl (hb hby d6_41) (by decide) (by decide) kz) ?_
  show OG p e below Φ T11 m 3 #[rv a, iv 4, rv b, iv 4, iv 4, iv 4, iv c3_] []
  refine OGo.st (fun _ kz => XS.iload X11.here hx rfl (hb hby d6_3) rfl kz) ?_
  show OG p e below Φ T11 m 5 #[rv a, iv 4, rv b, iv 4, iv 4, iv 4, iv c3_] [(.int 4)]
  refine OGo.st (fun _ kz => XS.iload X11.here hx rfl (hb hby d6_5) rfl kz) ?_
  show OG p e below Φ T11 m 7 #[rv a, iv 4, rv b, iv 4, iv 4, iv 4, iv c3_] [(.int 4), (.int 4)]
  refine OGo.st (fun _ kz => XS.icmpYes X11.here hx rfl (pc0 := 7) (pc' := 44) rfl (hb hby d6_7) rfl (XT.ii_ge_t (by decide)) (by decide) (by decide) kz) ?_
  show OG p e below Φ T11 m 44 #[rv a, iv 4, rv b, iv 4, iv 4, iv 4, iv c3_] []
  refine OGo.st (fun _ kz => XS.iload X11.here hx rfl (hb hby d6_44) rfl kz) ?_
  show OG p e below Φ T11 m 46 #[rv a, iv 4, rv b, iv 4, iv 4, iv 4, iv c3_] [(.int 4)]
  refine OGo.fin X11 hlk (v := (some (.int 4))) (fun h => by rw [hret] at h; cases h) (by decide) (by decide) (fun fs hr => X11.ireturnOut hx hret rfl (by simp) (hb hby d6_46) hr) fun U eU hF => hΦ _ _ _ ?_ hF
  rw [eU, e11]
  show Q_rs4c2 Z a ca b cb c0_ c1_ c2_ c3_ h0 n0 _ _ _
  exact ⟨rfl, N11, K11, V11⟩

theorem ef_rs4c3 (m : MethodId) (x0 : Addr) (x1 : Int32) (x2 : Int32) : entryFrame m #[(.ref x0), (.int x1), (.int x2)] 6 = mkF m 0 #[.val (.ref x0), .val (.int x1), .val (.int x2), .unset, .unset, .unset] [] := by first | (simp [entryFrame, mkF, argsToLocals, Value.category]; done) | rfl
def Q_rs4c3 (Z : State) (a : Addr) (ca : ClassId) (c0_ : Int32) (c1_ : Int32) (c2_ : Int32) (c3_ : Int32) (h0 : Heap) (n0 : Nat) (v : Option Value) (h : Heap) (L : List Loc) : Prop := ∃ b cb, v = some (.ref b) ∧ Fr n0 L ∧ Keep h0 h [] ∧ Arv Z h b cb .byte (4 : Int32) [(.int (nar .byte (c0_.toInt8.toInt32))), (.int (nar .byte (c1_.toInt8.toInt32))), (.int (nar .byte (c2_.toInt8.toInt32))), (.int (nar .byte (c3_.toInt8.toInt32)))] (.int (0 : Int32)) ∧ h0.size ≤ b
set_option maxRecDepth 65536 in
set_option maxHeartbeats 40000000 in
theorem rs4c3 (l : Launch) (Z : State) (a0 : Array Value) (hw : ∀ d ∈ tables_1, d.before a0 Z = true) (ws : List Jvm.Cond) (a : Addr) (ca : ClassId) (c0_ : Int32) (c1_ : Int32) (c2_ : Int32) (c3_ : Int32) (h0 : Heap) (n0 : Nat) (Z0 : n0 ≤ h0.size) (V_a : Arv Z h0 a ca .char (4 : Int32) [(.int c0_), (.int c1_), (.int c2_), (.int c3_)] (.int (0 : Int32))) (hl0 : ¬ (255 : Int32) < c0_) (hl1 : ¬ (255 : Int32) < c1_) (hl2 : ¬ (255 : Int32) < c2_) (hl3 : ¬ (255 : Int32) < c3_) :
    OCon l Z (⟨"java/lang/StringUTF16", "compress", "([CII)[B"⟩ : MethodName) jdk_52_method_16_code 6 (some (.array .byte)) ws ({ frames := 1, cells := 1, slots := 4, locals := 18 } : Room) #[(.ref a), (.int (0 : Int32)), (.int (4 : Int32))] h0 (Q_rs4c3 Z a ca c0_ c1_ c2_ c3_ h0 n0) := by
  refine OCon.of (plainFor_of_name pn3) ?_
  intro p e s m below meth c s₁ Φ X0 hx hby hml hown hnm hret hlk hZ e0 hΦ
  have N0 := Fr.nil n0
  refine OGo.st (fun _ kz => castTop (ef_rs4c3 m a (0 : Int32) (4 : Int32)) kz) ?_
  have K0 := Keep.refl h0 []
  show OG p e below Φ s₁ m 0 #[rv a, iv 0, iv 4, .unset, .unset, .unset] []
  refine OGo.st (fun _ kz => XS.iloadN X0.here hx rfl (hb hby d5_0) rfl kz) ?_
  show OG p e below Φ s₁ m 1 #[rv a, iv 0, iv 4, .unset, .unset, .unset] [(.int 4)]
  obtain ⟨T1, h1, c1, X1, e1, E1, Ar1, st1⟩ := newP (aty := .byte) X0 hx hZ (ow0 hw) e0 (g := (mkF m 1 #[rv a, iv 0, iv 4, .unset, .unset, .unset] [(.int 4)])) rfl (hb hby d5_1) rfl (by decide) (cap := 4) (by decide) (by decide) (by decide) (by decide)
  obtain ⟨b1, g1⟩ : ∃ z, z = h0.size := ⟨_, rfl⟩
  rw [← g1] at Ar1 st1
  have ne1_a : a ≠ b1 := by rw [g1]; exact Nat.ne_of_lt V_a.lt
  have F2 := V_a.ext E1
  have gb1 : n0 ≤ b1 := Nat.le_trans Z0 (Nat.le_of_eq g1.symm)
  have sz1 : h0.size ≤ b1 := Nat.le_trans K0.1 (Nat.le_of_eq g1.symm)
  have K1 := K0.ext E1
  have Zs1 : n0 ≤ h1.size := Nat.le_trans Z0 E1.1
  have V1 : Arv Z h1 b1 c1 .byte (4 : Int32) [(.int (0 : Int32)), (.int (0 : Int32)), (.int (0 : Int32)), (.int (0 : Int32))] (.int (0 : Int32)) := (Arv.new Ar1 (by decide)).pad (pad_rep [] _ 4)
  refine OGo.st st1 ?_
  show OG p e below Φ T1 m 3 #[rv a, iv 0, iv 4, .unset, .unset, .unset] [(.ref b1)]
  refine OGo.st (fun _ kz => XS.astoreN X1.here hx rfl (hb hby d5_3) rfl rfl (l' := #[rv a, iv 0, iv 4, rv b1, .unset, .unset]) rfl kz) ?_
  show OG p e below Φ T1 m 4 #[rv a, iv 0, iv 4, rv b1, .unset, .unset] []
  refine OGo.st (fun _ kz => XS.aloadN X1.here hx rfl (hb hby d5_4) rfl rfl kz) ?_
  show OG p e below Φ T1 m 5 #[rv a, iv 0, iv 4, rv b1, .unset, .unset] [(.ref a)]
  refine OGo.st (fun _ kz => XS.iloadN X1.here hx rfl (hb hby d5_5) rfl kz) ?_
  show OG p e below Φ T1 m 6 #[rv a, iv 0, iv 4, rv b1, .unset, .unset] [(.int 0), (.ref a)]
  refine OGo.st (fun _ kz => XS.aloadN X1.here hx rfl (hb hby d5_6) rfl rfl kz) ?_
  show OG p e below Φ T1 m 7 #[rv a, iv 0, iv 4, rv b1, .unset, .unset] [(.ref b1), (.int 0), (.ref a)]
  refine OGo.st (fun _ kz => XS.iconst X1.here hx rfl (hb hby d5_7) kz) ?_
  show OG p e below Φ T1 m 8 #[rv a, iv 0, iv 4, rv b1, .unset, .unset] [(.int 0), (.ref b1), (.int 0), (.ref a)]
  refine OGo.st (fun _ kz => XS.iloadN X1.here hx rfl (hb hby d5_8) rfl kz) ?_
  show OG p e below Φ T1 m 9 #[rv a, iv 0, iv 4, rv b1, .unset, .unset] [(.int 4), (.int 0), (.ref b1), (.int 0), (.ref a)]
  obtain ⟨_, T3, L3, X3, hQ3, st3⟩ := own_callSt X1 hx hZ hown (ow24 hw) (ow25 hw) (ow22 hw) (ow26 hw) (by decide) (rs4c2 l Z a0 hw [] a ca b1 c1 c0_ c1_ c2_ c3_ h1 n0 Zs1 F2 V1 ne1_a gb1 hl0 hl1 hl2 hl3) e1 (W := 0) (by decide) (by decide) (by decide) (by decide) (pc := 9) (ls := #[rv a, iv 0, iv 4, rv b1, .unset, .unset]) (stk := [(.int 4), (.int 0), (.ref b1), (.int 0), (.ref a)]) (by rw [hml]; rfl) (argsL := [(.ref a), (.int 0), (.ref b1), (.int 0), (.int 4)]) (rest := []) (lenOf pd1 rfl) rfl rfl (Nat.le_of_eq rfl) (hb hby d5_9)
  obtain ⟨rfl, Nq3, Kq3, Vq3⟩ := hQ3
  have N3 := Fr.app N0 Nq3
  have Zs3 : n0 ≤ T3.heap.size := Nat.le_trans Zs1 Kq3.1
  have F4 := F2.keep Kq3 (ninS ne1_a nin0)
  have K3 := K1.trans Kq3 (allS (Or.inr sz1) all0)
  refine OGo.st st3 ?_
  show OG p e below Φ T3 m 12 #[rv a, iv 0, iv 4, rv b1, .unset, .unset] [(.int 4)]
  refine OGo.st (fun _ kz => XS.istore X3.here hx rfl (hb hby d5_12) rfl (l' := #[rv a, iv 0, iv 4, rv b1, iv 4, .unset]) rfl kz) ?_
  show OG p e below Φ T3 m 14 #[rv a, iv 0, iv 4, rv b1, iv 4, .unset] []
  refine OGo.st (fun _ kz => XS.iload X3.here hx rfl (hb hby d5_14) rfl kz) ?_
  show OG p e below Φ T3 m 16 #[rv a, iv 0, iv 4, rv b1, iv 4, .unset] [(.int 4)]
  refine OGo.st (fun _ kz => XS.iloadN X3.here hx rfl (hb hby d5_16) rfl kz) ?_
  show OG p e below Φ T3 m 17 #[rv a, iv 0, iv 4, rv b1, iv 4, .unset] [(.int 4), (.int 4)]
  refine OGo.st (fun _ kz => XS.icmpYes X3.here hx rfl (pc0 := 17) (pc' := 57) rfl (hb hby d5_17) rfl (XT.ii_eq_t (by decide)) (by decide) (by decide) kz) ?_
  show OG p e below Φ T3 m 57 #[rv a, iv 0, iv 4, rv b1, iv 4, .unset] []
  refine OGo.st (fun _ kz => XS.aloadN X3.here hx rfl (hb hby d5_57) rfl rfl kz) ?_
  show OG p e below Φ T3 m 58 #[rv a, iv 0, iv 4, rv b1, iv 4, .unset] [(.ref b1)]
  refine OGo.fin X3 hlk (v := (some (.ref b1))) (fun h => by rw [hret] at h; cases h) (by decide) (by decide) (fun fs hr => X3.areturnOut hx rfl hret rfl (hb hby d5_58) hr) fun U eU hF => hΦ _ _ _ ?_ hF
  rw [eU]
  show Q_rs4c3 Z a ca c0_ c1_ c2_ c3_ h0 n0 _ _ _
  exact ⟨_, _, rfl, N3, K3, Vq3, sz1⟩

theorem ef_rs4cf (m : MethodId) (x0 : Addr) (x1 : Int32) : entryFrame m #[(.ref x0), (.int x1)] 2 = mkF m 0 #[.val (.ref x0), .val (.int x1)] [] := by first | (simp [entryFrame, mkF, argsToLocals, Value.category]; done) | rfl
def Q_rs4cf (Z : State) (b : Addr) (cb : ClassId) (c0_ : Int32) (c1_ : Int32) (c2_ : Int32) (c3_ : Int32) (h0 : Heap) (n0 : Nat) (v : Option Value) (h : Heap) (L : List Loc) : Prop := v = some (.int (0 : Int32)) ∧ Fr n0 L ∧ h = h0
set_option maxRecDepth 65536 in
set_option maxHeartbeats 40000000 in
theorem rs4cf (l : Launch) (Z : State) (a0 : Array Value) (hw : ∀ d ∈ tables_1, d.before a0 Z = true) (ws : List Jvm.Cond) (b : Addr) (cb : ClassId) (c0_ : Int32) (c1_ : Int32) (c2_ : Int32) (c3_ : Int32) (h0 : Heap) (n0 : Nat) (Z0 : n0 ≤ h0.size) (V_b : Arv Z h0 b cb .byte (4 : Int32) [(.int (nar .byte (c0_.toInt8.toInt32))), (.int (nar .byte (c1_.toInt8.toInt32))), (.int (nar .byte (c2_.toInt8.toInt32))), (.int (nar .byte (c3_.toInt8.toInt32)))] (.int (0 : Int32))) :
    OCon l Z (⟨"java/lang/StringUTF16", "coderFromArrayLen", "([BI)B"⟩ : MethodName) jdk_52_method_15_code 2 (some .byte) ws ({ frames := 0, cells := 0, slots := 0, locals := 0 } : Room) #[(.ref b), (.int (4 : Int32))] h0 (Q_rs4cf Z b cb c0_ c1_ c2_ c3_ h0 n0) := by
  refine OCon.of (plainFor_of_name pn3) ?_
  intro p e s m below meth c s₁ Φ X0 hx hby hml hown hnm hret hlk hZ e0 hΦ
  have N0 := Fr.nil n0
  refine OGo.st (fun _ kz => castTop (ef_rs4cf m b (4 : Int32)) kz) ?_
  show OG p e below Φ s₁ m 0 #[rv b, iv 4] []
  refine OGo.st (fun _ kz => XS.iloadN X0.here hx rfl (hb hby d7_0) rfl kz) ?_
  show OG p e below Φ s₁ m 1 #[rv b, iv 4] [(.int 4)]
  refine OGo.st (fun _ kz => XS.aloadN X0.here hx rfl (hb hby d7_1) rfl rfl kz) ?_
  show OG p e below Φ s₁ m 2 #[rv b, iv 4] [(.ref b), (.int 4)]
  obtain ⟨cl1, Aq1, -, S1, M1, -, -⟩ := id V_b
  refine OGo.st (fun _ kz => X0.arraylength hx (by rw [e0]; exact Aq1.1) (State.isArrayOf_alike hZ.alike Aq1.2.1) (g := (mkF m 2 #[rv b, iv 4] [(.ref b), (.int 4)])) rfl rfl (hb hby d7_2) _ kz) ?_
  rw [len_of S1 M1]
  show OG p e below Φ s₁ m 3 #[rv b, iv 4] [(.int 4), (.int 4)]
  refine OGo.st (fun _ kz => XS.isub X0.here hx rfl (hb hby d7_3) rfl kz) ?_
  show OG p e below Φ s₁ m 4 #[rv b, iv 4] [(.int 0)]
  refine OGo.st (fun _ kz => XS.bipush X0.here hx rfl (hb hby d7_4) kz) ?_
  show OG p e below Φ s₁ m 6 #[rv b, iv 4] [(.int 31), (.int 0)]
  refine OGo.st (fun _ kz => XT.iushr X0.here hx rfl (hb hby d7_6) rfl kz) ?_
  show OG p e below Φ s₁ m 7 #[rv b, iv 4] [(.int 0)]
  refine OGo.st (fun _ kz => XT.i2b X0.here hx rfl (hb hby d7_7) rfl kz) ?_
  show OG p e below Φ s₁ m 8 #[rv b, iv 4] [(.int 0)]
  refine OGo.fin X0 hlk (v := (some (.int 0))) (fun h => by rw [hret] at h; cases h) (by decide) (by decide) (fun fs hr => X0.ireturnOut hx hret rfl (by simp) (hb hby d7_8) hr) fun U eU hF => hΦ _ _ _ ?_ hF
  rw [eU, e0]
  show Q_rs4cf Z b cb c0_ c1_ c2_ c3_ h0 n0 _ _ _
  exact ⟨rfl, N0, rfl⟩

theorem ef_rs4i4 (m : MethodId) (x0 : Addr) (x1 : Addr) (x2 : Int32) (x3 : Int32) : entryFrame m #[(.ref x0), (.ref x1), (.int x2), (.int x3), .null] 6 = mkF m 0 #[.val (.ref x0), .val (.ref x1), .val (.int x2), .val (.int x3), .val .null, .unset] [] := by first | (simp [entryFrame, mkF, argsToLocals, Value.category]; done) | rfl
def Q_rs4i4 (Z : State) (s_ : Addr) (a : Addr) (ca : ClassId) (qc : Int32) (c0_ : Int32) (c1_ : Int32) (c2_ : Int32) (c3_ : Int32) (h0 : Heap) (n0 : Nat) (v : Option Value) (h : Heap) (L : List Loc) : Prop := v = none ∧ Fr n0 L ∧ Keep h0 h [s_] ∧ Exa Z h s_ "java/lang/String" ∧ ∃ b cb, Fld Z h s_ "java/lang/String" "value" "[B" (.ref b) ∧ Fld Z h s_ "java/lang/String" "coder" "B" (.int (0 : Int32)) ∧ Arv Z h b cb .byte (4 : Int32) [(.int (nar .byte (c0_.toInt8.toInt32))), (.int (nar .byte (c1_.toInt8.toInt32))), (.int (nar .byte (c2_.toInt8.toInt32))), (.int (nar .byte (c3_.toInt8.toInt32)))] (.int (0 : Int32)) ∧ h0.size ≤ b
set_option maxRecDepth 65536 in
set_option maxHeartbeats 40000000 in
theorem rs4i4 (l : Launch) (Z : State) (a0 : Array Value) (hw : ∀ d ∈ tables_1, d.before a0 Z = true) (ws : List Jvm.Cond) (s_ : Addr) (a : Addr) (ca : ClassId) (qc : Int32) (c0_ : Int32) (c1_ : Int32) (c2_ : Int32) (c3_ : Int32) (h0 : Heap) (n0 : Nat) (Z0 : n0 ≤ h0.size) (E_s : Exa Z h0 s_ "java/lang/String") (g_s : n0 ≤ s_) (F_v : Fld Z h0 s_ "java/lang/String" "value" "[B" .null) (F_c : Fld Z h0 s_ "java/lang/String" "coder" "B" (.int (0 : Int32))) (V_a : Arv Z h0 a ca .char (4 : Int32) [(.int c0_), (.int c1_), (.int c2_), (.int c3_)] (.int (0 : Int32))) (nsa : s_ ≠ a) (S_q : Sta Z h0 "java/lang/String" "COMPACT_STRINGS" "Z" (.int qc)) (hq : ¬ qc = 0) (hl0 : ¬ (255 : Int32) < c0_) (hl1 : ¬ (255 : Int32) < c1_) (hl2 : ¬ (255 : Int32) < c2_) (hl3 : ¬ (255 : Int32) < c3_) :
    OCon l Z (⟨"java/lang/String", "<init>", "([CIILjava/lang/Void;)V"⟩ : MethodName) jdk_42_method_149_code 6 none ws ({ frames := 2, cells := 1, slots := 4, locals := 35 } : Room) #[(.ref s_), (.ref a), (.int (0 : Int32)), (.int (4 : Int32)), .null] h0 (Q_rs4i4 Z s_ a ca qc c0_ c1_ c2_ c3_ h0 n0) := by
  refine OCon.of (plainFor_of_name pn0) ?_
  intro p e s m below meth c s₁ Φ X0 hx hby hml hown hnm hret hlk hZ e0 hΦ
  have N0 := Fr.nil n0
  refine OGo.st (fun _ kz => castTop (ef_rs4i4 m s_ a (0 : Int32) (4 : Int32)) kz) ?_
  have K0 := Keep.refl h0 [s_]
  show OG p e below Φ s₁ m 0 #[rv s_, rv a, iv 0, iv 4, .val .null, .unset] []
  refine OGo.st (fun _ kz => XS.aloadN X0.here hx rfl (hb hby d3_0) rfl rfl kz) ?_
  show OG p e below Φ s₁ m 1 #[rv s_, rv a, iv 0, iv 4, .val .null, .unset] [(.ref s_)]
  obtain ⟨T1, X1, e1, st1⟩ := initO X0 hx hZ hown (ow16 hw) (ow17 hw) (ow18 hw) e0 (g := (mkF m 1 #[rv s_, rv a, iv 0, iv 4, .val .null, .unset] [(.ref s_)])) rfl (by rw [hml]; rfl) rfl (hb hby d3_1) (by decide) (W := 0) (Nat.le_of_eq rfl) (by decide)
  refine OGo.st st1 ?_
  show OG p e below Φ T1 m 4 #[rv s_, rv a, iv 0, iv 4, .val .null, .unset] []
  refine OGo.st (fun _ kz => XS.iloadN X1.here hx rfl (hb hby d3_4) rfl kz) ?_
  show OG p e below Φ T1 m 5 #[rv s_, rv a, iv 0, iv 4, .val .null, .unset] [(.int 4)]
  refine OGo.st (fun _ kz => XS.ifYes X1.here hx rfl (pc0 := 5) (pc' := 27) rfl (hb hby d3_5) rfl (XT.i0_ne_t (by decide)) (by decide) (by decide) kz) ?_
  show OG p e below Φ T1 m 27 #[rv s_, rv a, iv 0, iv 4, .val .null, .unset] []
  obtain ⟨T2, X2, e2, st2⟩ := getS2 X1 hx hZ hown (host := "") (Or.inl (ow19 hw)) Via.refl e1 S_q (g := (mkF m 27 #[rv s_, rv a, iv 0, iv 4, .val .null, .unset] [])) rfl (hb hby d3_27)
  refine OGo.st st2 ?_
  show OG p e below Φ T2 m 30 #[rv s_, rv a, iv 0, iv 4, .val .null, .unset] [(.int qc)]
  refine OGo.st (fun _ kz => XS.ifNo X2.here hx rfl (hb hby d3_30) rfl (XT.i0_eq_f hq) kz) ?_
  show OG p e below Φ T2 m 33 #[rv s_, rv a, iv 0, iv 4, .val .null, .unset] []
  refine OGo.st (fun _ kz => XS.aloadN X2.here hx rfl (hb hby d3_33) rfl rfl kz) ?_
  show OG p e below Φ T2 m 34 #[rv s_, rv a, iv 0, iv 4, .val .null, .unset] [(.ref a)]
  refine OGo.st (fun _ kz => XS.iloadN X2.here hx rfl (hb hby d3_34) rfl kz) ?_
  show OG p e below Φ T2 m 35 #[rv s_, rv a, iv 0, iv 4, .val .null, .unset] [(.int 0), (.ref a)]
  refine OGo.st (fun _ kz => XS.iloadN X2.here hx rfl (hb hby d3_35) rfl kz) ?_
  show OG p e below Φ T2 m 36 #[rv s_, rv a, iv 0, iv 4, .val .null, .unset] [(.int 4), (.int 0), (.ref a)]
  obtain ⟨_, T3, L3, X3, hQ3, st3⟩ := own_callSt X2 hx hZ hown (ow20 hw) (ow21 hw) (ow22 hw) (ow23 hw) (by decide) (rs4c3 l Z a0 hw [] a ca c0_ c1_ c2_ c3_ h0 n0 Z0 V_a hl0 hl1 hl2 hl3) e2 (W := 0) (by decide) (by decide) (by decide) (by decide) (pc := 36) (ls := #[rv s_, rv a, iv 0, iv 4, .val .null, .unset]) (stk := [(.int 4), (.int 0), (.ref a)]) (by rw [hml]; rfl) (argsL := [(.ref a), (.int 0), (.int 4)]) (rest := []) (lenOf pd2 rfl) rfl rfl (Nat.le_of_eq rfl) (hb hby d3_36)
  obtain ⟨b3, cb3, rfl, Nq3, Kq3, Vq3, hz3⟩ := hQ3
  have nq3_a : a ≠ b3 := Nat.ne_of_lt (Nat.lt_of_lt_of_le V_a.lt hz3)
  have nq3_s_ : s_ ≠ b3 := Nat.ne_of_lt (Nat.lt_of_lt_of_le E_s.lt hz3)
  have gq3 : n0 ≤ b3 := Nat.le_trans Z0 hz3
  have sq3 : h0.size ≤ b3 := Nat.le_trans K0.1 hz3
  have N3 := Fr.app N0 Nq3
  have Zs3 : n0 ≤ T3.heap.size := Nat.le_trans Z0 Kq3.1
  have F4 := E_s.keep Kq3
  have F5 := F_v.keep Kq3 nin0
  have F6 := F_c.keep Kq3 nin0
  have F7 := V_a.keep Kq3 nin0
  have K3 := K0.trans Kq3 all0
  refine OGo.st st3 ?_
  show OG p e below Φ T3 m 39 #[rv s_, rv a, iv 0, iv 4, .val .null, .unset] [(.ref b3)]
  refine OGo.st (fun _ kz => XS.astore X3.here hx rfl (hb hby d3_39) rfl rfl (l' := #[rv s_, rv a, iv 0, iv 4, .val .null, rv b3]) rfl kz) ?_
  show OG p e below Φ T3 m 41 #[rv s_, rv a, iv 0, iv 4, .val .null, rv b3] []
  refine OGo.st (fun _ kz => XS.aloadN X3.here hx rfl (hb hby d3_41) rfl rfl kz) ?_
  show OG p e below Φ T3 m 42 #[rv s_, rv a, iv 0, iv 4, .val .null, rv b3] [(.ref s_)]
  refine OGo.st (fun _ kz => XS.aload X3.here hx rfl (hb hby d3_42) rfl rfl kz) ?_
  show OG p e below Φ T3 m 44 #[rv s_, rv a, iv 0, iv 4, .val .null, rv b3] [(.ref b3), (.ref s_)]
  refine OGo.st (fun _ kz => XS.iloadN X3.here hx rfl (hb hby d3_44) rfl kz) ?_
  show OG p e below Φ T3 m 45 #[rv s_, rv a, iv 0, iv 4, .val .null, rv b3] [(.int 4), (.ref b3), (.ref s_)]
  obtain ⟨_, T8, L8, X8, hQ8, st8⟩ := own_callSt X3 hx hZ hown (ow27 hw) (ow28 hw) (ow22 hw) (ow29 hw) (by decide) (rs4cf l Z a0 hw [] b3 cb3 c0_ c1_ c2_ c3_ T3.heap n0 Zs3 Vq3) rfl (W := 1) (by decide) (by decide) (by decide) (by decide) (pc := 45) (ls := #[rv s_, rv a, iv 0, iv 4, .val .null, rv b3]) (stk := [(.int 4), (.ref b3), (.ref s_)]) (by rw [hml]; rfl) (argsL := [(.ref b3), (.int 4)]) (rest := [(.ref s_)]) (lenOf pd3 rfl) rfl rfl (Nat.le_of_eq rfl) (hb hby d3_45)
  obtain ⟨rfl, Nq8, e8⟩ := hQ8
  have N8 := Fr.app N3 Nq8
  refine OGo.st st8 ?_
  show OG p e below Φ T8 m 48 #[rv s_, rv a, iv 0, iv 4, .val .null, rv b3] [(.int 0), (.ref s_)]
  obtain ⟨T9, h9, X9, e9, W9, st9⟩ := putF X8 hx hZ hown (host := "") (Or.inl (ow30 hw)) Via.refl e8 F6 F4 (Or.inr ⟨(ow31 hw), rfl, hnm⟩) (ow7 hw) (ty := .byte) (by decide) (by decide) (by decide) (g := (mkF m 48 #[rv s_, rv a, iv 0, iv 4, .val .null, rv b3] [(.int 0), (.ref s_)])) rfl rfl (hb hby d3_48)
  have F10 := F4.wr W9
  have F11 := F5.other W9 (Or.inr (slot_ne (Or.inr (ow33 hw)) (Or.inr (ow31 hw)) (by decide) (t := (.array .byte)) (t' := .byte) (by decide) (by decide)))
  have F12 := F6.same W9
  have F13 := F7.other W9 (Ne.symm nsa)
  have F14 := Vq3.other W9 (Ne.symm nq3_s_)
  have K9 := K3.wr W9 (Or.inl (List.mem_of_getElem? (i := 0) rfl))
  have N9 := Fr.snoc X9 N8 g_s
  have Zs9 : n0 ≤ h9.size := by rw [W9.size]; exact Zs3
  refine OGo.st st9 ?_
  show OG p e below Φ T9 m 51 #[rv s_, rv a, iv 0, iv 4, .val .null, rv b3] []
  refine OGo.st (fun _ kz => XS.aloadN X9.here hx rfl (hb hby d3_51) rfl rfl kz) ?_
  show OG p e below Φ T9 m 52 #[rv s_, rv a, iv 0, iv 4, .val .null, rv b3] [(.ref s_)]
  refine OGo.st (fun _ kz => XS.aload X9.here hx rfl (hb hby d3_52) rfl rfl kz) ?_
  show OG p e below Φ T9 m 54 #[rv s_, rv a, iv 0, iv 4, .val .null, rv b3] [(.ref b3), (.ref s_)]
  obtain ⟨T15, h15, X15, e15, W15, st15⟩ := putF X9 hx hZ hown (host := "") (Or.inl (ow32 hw)) Via.refl e9 F11 F10 (Or.inr ⟨(ow33 hw), rfl, hnm⟩) (ow7 hw) (ty := (.array .byte)) (by decide) rfl rfl (g := (mkF m 54 #[rv s_, rv a, iv 0, iv 4, .val .null, rv b3] [(.ref b3), (.ref s_)])) rfl rfl (hb hby d3_54)
  have F16 := F10.wr W15
  have F17 := F11.same W15
  have F18 := F12.other W15 (Or.inr (slot_ne (Or.inr (ow31 hw)) (Or.inr (ow33 hw)) (by decide) (t := .byte) (t' := (.array .byte)) (by decide) (by decide)))
  have F19 := F13.other W15 (Ne.symm nsa)
  have F20 := F14.other W15 (Ne.symm nq3_s_)
  have K15 := K9.wr W15 (Or.inl (List.mem_of_getElem? (i := 0) rfl))
  have N15 := Fr.snoc X15 N9 g_s
  have Zs15 : n0 ≤ h15.size := by rw [W15.size]; exact Zs9
  refine OGo.st st15 ?_
  show OG p e below Φ T15 m 57 #[rv s_, rv a, iv 0, iv 4, .val .null, rv b3] []
  refine OGo.fin X15 hlk (v := none) (fun _ => rfl) (by decide) (by decide) (fun fs hr => X15.returnOut hx hret (hb hby d3_57) hr) fun U eU hF => hΦ _ _ _ ?_ hF
  rw [eU, e15]
  show Q_rs4i4 Z s_ a ca qc c0_ c1_ c2_ c3_ h0 n0 _ _ _
  exact ⟨rfl, N15, K15, F16, _, _, F17, F18, F20, sq3⟩

theorem ef_rs4i1 (m : MethodId) (x0 : Addr) (x1 : Addr) : entryFrame m #[(.ref x0), (.ref x1)] 2 = mkF m 0 #[.val (.ref x0), .val (.ref x1)] [] := by first | (simp [entryFrame, mkF, argsToLocals, Value.category]; done) | rfl
def Q_rs4i1 (Z : State) (s_ : Addr) (a : Addr) (ca : ClassId) (qc : Int32) (c0_ : Int32) (c1_ : Int32) (c2_ : Int32) (c3_ : Int32) (h0 : Heap) (n0 : Nat) (v : Option Value) (h : Heap) (L : List Loc) : Prop := v = none ∧ Fr n0 L ∧ Keep h0 h [s_] ∧ Exa Z h s_ "java/lang/String" ∧ ∃ b cb, Fld Z h s_ "java/lang/String" "value" "[B" (.ref b) ∧ Fld Z h s_ "java/lang/String" "coder" "B" (.int (0 : Int32)) ∧ Arv Z h b cb .byte (4 : Int32) [(.int (nar .byte (c0_.toInt8.toInt32))), (.int (nar .byte (c1_.toInt8.toInt32))), (.int (nar .byte (c2_.toInt8.toInt32))), (.int (nar .byte (c3_.toInt8.toInt32)))] (.int (0 : Int32)) ∧ h0.size ≤ b
set_option maxRecDepth 65536 in
set_option maxHeartbeats 40000000 in
theorem rs4i1 (l : Launch) (Z : State) (a0 : Array Value) (hw : ∀ d ∈ tables_1, d.before a0 Z = true) (ws : List Jvm.Cond) (s_ : Addr) (a : Addr) (ca : ClassId) (qc : Int32) (c0_ : Int32) (c1_ : Int32) (c2_ : Int32) (c3_ : Int32) (h0 : Heap) (n0 : Nat) (Z0 : n0 ≤ h0.size) (E_s : Exa Z h0 s_ "java/lang/String") (g_s : n0 ≤ s_) (F_v : Fld Z h0 s_ "java/lang/String" "value" "[B" .null) (F_c : Fld Z h0 s_ "java/lang/String" "coder" "B" (.int (0 : Int32))) (V_a : Arv Z h0 a ca .char (4 : Int32) [(.int c0_), (.int c1_), (.int c2_), (.int c3_)] (.int (0 : Int32))) (nsa : s_ ≠ a) (S_q : Sta Z h0 "java/lang/String" "COMPACT_STRINGS" "Z" (.int qc)) (hq : ¬ qc = 0) (hl0 : ¬ (255 : Int32) < c0_) (hl1 : ¬ (255 : Int32) < c1_) (hl2 : ¬ (255 : Int32) < c2_) (hl3 : ¬ (255 : Int32) < c3_) :
    OCon l Z (⟨"java/lang/String", "<init>", "([C)V"⟩ : MethodName) jdk_42_method_3_code 2 none ws ({ frames := 3, cells := 1, slots := 4, locals := 52 } : Room) #[(.ref s_), (.ref a)] h0 (Q_rs4i1 Z s_ a ca qc c0_ c1_ c2_ c3_ h0 n0) := by
  refine OCon.of (plainFor_of_name pn0) ?_
  intro p e s m below meth c s₁ Φ X0 hx hby hml hown hnm hret hlk hZ e0 hΦ
  have N0 := Fr.nil n0
  refine OGo.st (fun _ kz => castTop (ef_rs4i1 m s_ a) kz) ?_
  have K0 := Keep.refl h0 [s_]
  show OG p e below Φ s₁ m 0 #[rv s_, rv a] []
  refine OGo.st (fun _ kz => XS.aloadN X0.here hx rfl (hb hby d2_0) rfl rfl kz) ?_
  show OG p e below Φ s₁ m 1 #[rv s_, rv a] [(.ref s_)]
  refine OGo.st (fun _ kz => XS.aloadN X0.here hx rfl (hb hby d2_1) rfl rfl kz) ?_
  show OG p e below Φ s₁ m 2 #[rv s_, rv a] [(.ref a), (.ref s_)]
  refine OGo.st (fun _ kz => XS.iconst X0.here hx rfl (hb hby d2_2) kz) ?_
  show OG p e below Φ s₁ m 3 #[rv s_, rv a] [(.int 0), (.ref a), (.ref s_)]
  refine OGo.st (fun _ kz => XS.aloadN X0.here hx rfl (hb hby d2_3) rfl rfl kz) ?_
  show OG p e below Φ s₁ m 4 #[rv s_, rv a] [(.ref a), (.int 0), (.ref a), (.ref s_)]
  obtain ⟨cl1, Aq1, -, S1, M1, -, -⟩ := id V_a
  refine OGo.st (fun _ kz => X0.arraylength hx (by rw [e0]; exact Aq1.1) (State.isArrayOf_alike hZ.alike Aq1.2.1) (g := (mkF m 4 #[rv s_, rv a] [(.ref a), (.int 0), (.ref a), (.ref s_)])) rfl rfl (hb hby d2_4) _ kz) ?_
  rw [len_of S1 M1]
  show OG p e below Φ s₁ m 5 #[rv s_, rv a] [(.int 4), (.int 0), (.ref a), (.ref s_)]
  refine OGo.st (fun _ kz => XS.aconstNull X0.here hx rfl (hb hby d2_5) kz) ?_
  show OG p e below Φ s₁ m 6 #[rv s_, rv a] [.null, (.int 4), (.int 0), (.ref a), (.ref s_)]
  obtain ⟨_, T2, L2, X2, hQ2, st2⟩ := own_callSp X0 hx hZ rfl hown (ow12 hw) (ow13 hw) (ow8 hw) (ow15 hw) (by decide) (rs4i4 l Z a0 hw [] s_ a ca qc c0_ c1_ c2_ c3_ h0 n0 Z0 E_s g_s F_v F_c V_a nsa S_q hq hl0 hl1 hl2 hl3) e0 (W := 0) (by decide) (by decide) (by decide) (by decide) (pc := 6) (ls := #[rv s_, rv a]) (stk := [.null, (.int 4), (.int 0), (.ref a), (.ref s_)]) (by rw [hml]; rfl) (a := s_) (argsL := [(.ref a), (.int 0), (.int 4), .null]) (rest := []) (lenOf pd4 rfl) rfl rfl (Nat.le_of_eq rfl) (hb hby d2_6)
  obtain ⟨rfl, Nq2, Kq2, Eq2, b2, cb2, Fv2, Fc2, Vq2, hz2⟩ := hQ2
  have nq2_a : a ≠ b2 := Nat.ne_of_lt (Nat.lt_of_lt_of_le V_a.lt hz2)
  have nq2_s_ : s_ ≠ b2 := Nat.ne_of_lt (Nat.lt_of_lt_of_le E_s.lt hz2)
  have gq2 : n0 ≤ b2 := Nat.le_trans Z0 hz2
  have sq2 : h0.size ≤ b2 := Nat.le_trans K0.1 hz2
  have N2 := Fr.app N0 Nq2
  have Zs2 : n0 ≤ T2.heap.size := Nat.le_trans Z0 Kq2.1
  have F3 := V_a.keep Kq2 (ninS (Ne.symm nsa) nin0)
  have K2 := K0.trans Kq2 (allS (Or.inl (List.mem_of_getElem? (i := 0) rfl)) all0)
  refine OGo.st st2 ?_
  show OG p e below Φ T2 m 9 #[rv s_, rv a] []
  refine OGo.fin X2 hlk (v := none) (fun _ => rfl) (by decide) (by decide) (fun fs hr => X2.returnOut hx hret (hb hby d2_9) hr) fun U eU hF => hΦ _ _ _ ?_ hF
  rw [eU]
  show Q_rs4i1 Z s_ a ca qc c0_ c1_ c2_ c3_ h0 n0 _ _ _
  exact ⟨rfl, N2, K2, Eq2, _, _, Fv2, Fc2, Vq2, sq2⟩

theorem d1_27 : decode prog_4_method_7_code 27 = .ok (.aload_n 1, 1) := by decide +kernel
theorem d1_28 : decode prog_4_method_7_code 28 = .ok (.iconst 2, 1) := by decide +kernel
theorem d1_29 : decode prog_4_method_7_code 29 = .ok (.iconst 2, 1) := by decide +kernel
theorem d1_30 : decode prog_4_method_7_code 30 = .ok (.iload_n 2, 1) := by decide +kernel
theorem d1_31 : decode prog_4_method_7_code 31 = .ok (.imul, 1) := by decide +kernel
theorem d1_32 : decode prog_4_method_7_code 32 = .ok (.iadd, 1) := by decide +kernel
theorem d1_33 : decode prog_4_method_7_code 33 = .ok (.getstatic 157, 3) := by decide +kernel
theorem d1_36 : decode prog_4_method_7_code 36 = .ok (.aload_n 0, 1) := by decide +kernel
theorem d1_37 : decode prog_4_method_7_code 37 = .ok (.iload_n 2, 1) := by decide +kernel
theorem d1_38 : decode prog_4_method_7_code 38 = .ok (.baload, 1) := by decide +kernel
theorem d1_39 : decode prog_4_method_7_code 39 = .ok (.iconst 4, 1) := by decide +kernel
theorem d1_40 : decode prog_4_method_7_code 40 = .ok (.ishr, 1) := by decide +kernel
theorem d1_41 : decode prog_4_method_7_code 41 = .ok (.bipush 15, 2) := by decide +kernel
theorem d1_43 : decode prog_4_method_7_code 43 = .ok (.iand, 1) := by decide +kernel
theorem d1_44 : decode prog_4_method_7_code 44 = .ok (.caload, 1) := by decide +kernel
theorem d1_45 : decode prog_4_method_7_code 45 = .ok (.castore, 1) := by decide +kernel
theorem d1_46 : decode prog_4_method_7_code 46 = .ok (.aload_n 1, 1) := by decide +kernel
theorem d1_47 : decode prog_4_method_7_code 47 = .ok (.iconst 3, 1) := by decide +kernel
theorem d1_48 : decode prog_4_method_7_code 48 = .ok (.iconst 2, 1) := by decide +kernel
theorem d1_49 : decode prog_4_method_7_code 49 = .ok (.iload_n 2, 1) := by decide +kernel
theorem d1_50 : decode prog_4_method_7_code 50 = .ok (.imul, 1) := by decide +kernel
theorem d1_51 : decode prog_4_method_7_code 51 = .ok (.iadd, 1) := by decide +kernel
theorem d1_52 : decode prog_4_method_7_code 52 = .ok (.getstatic 157, 3) := by decide +kernel
theorem d1_55 : decode prog_4_method_7_code 55 = .ok (.aload_n 0, 1) := by decide +kernel
theorem d1_56 : decode prog_4_method_7_code 56 = .ok (.iload_n 2, 1) := by decide +kernel
theorem d1_57 : decode prog_4_method_7_code 57 = .ok (.baload, 1) := by decide +kernel
theorem d1_58 : decode prog_4_method_7_code 58 = .ok (.bipush 15, 2) := by decide +kernel
theorem d1_60 : decode prog_4_method_7_code 60 = .ok (.iand, 1) := by decide +kernel
theorem d1_61 : decode prog_4_method_7_code 61 = .ok (.caload, 1) := by decide +kernel
theorem d1_62 : decode prog_4_method_7_code 62 = .ok (.castore, 1) := by decide +kernel
theorem d1_63 : decode prog_4_method_7_code 63 = .ok (.iinc 2 1, 3) := by decide +kernel
theorem d1_66 : decode prog_4_method_7_code 66 = .ok (.goto (-45), 3) := by decide +kernel
theorem ef_rof1 (m : MethodId) (x0 : Addr) : entryFrame m #[(.ref x0)] 3 = mkF m 0 #[.val (.ref x0), .unset, .unset] [] := by first | (simp [entryFrame, mkF, argsToLocals, Value.category]; done) | rfl
def Q_rof1 (Z : State) (ay : Addr) (cy : ClassId) (y0_ : Int32) (ah : Addr) (ch : ClassId) (qc : Int32) (h0 : Heap) (n0 : Nat) (v : Option Value) (h : Heap) (L : List Loc) : Prop := ∃ s_ b cb, v = some (.ref s_) ∧ Fr n0 L ∧ Keep h0 h [] ∧ Exa Z h s_ "java/lang/String" ∧ Fld Z h s_ "java/lang/String" "value" "[B" (.ref b) ∧ Fld Z h s_ "java/lang/String" "coder" "B" (.int (0 : Int32)) ∧ Arv Z h b cb .byte (4 : Int32) [(.int (92 : Int32)), (.int (120 : Int32)), (.int (own_hi y0_)), (.int (own_lo y0_))] (.int (0 : Int32)) ∧ h0.size ≤ s_ ∧ h0.size ≤ b ∧ s_ ≠ b
set_option maxRecDepth 65536 in
set_option maxHeartbeats 40000000 in
theorem rof1 (l : Launch) (Z : State) (a0 : Array Value) (hw : ∀ d ∈ tables_1, d.before a0 Z = true) (ws : List Jvm.Cond) (ay : Addr) (cy : ClassId) (y0_ : Int32) (ah : Addr) (ch : ClassId) (qc : Int32) (h0 : Heap) (n0 : Nat) (Z0 : n0 ≤ h0.size) (O_0 : Old Z n0 h0) (V_y : Arv Z h0 ay cy .byte (1 : Int32) [(.int y0_)] (.int (0 : Int32))) (V_h : Arv Z h0 ah ch .char (16 : Int32) own_hxl (.int (0 : Int32))) (S_h : Sta Z Z.heap "com/example/crossweave/crossweave/PostgreSqlText" "HEX_DIGITS" "[C" (.ref ah)) (S_cs : Sta Z Z.heap "java/lang/String" "COMPACT_STRINGS" "Z" (.int qc)) (hq : ¬ qc = 0) :
    OCon l Z (⟨"com/example/crossweave/crossweave/PostgreSqlText", "ofBytes", "([B)Ljava/lang/String;"⟩ : MethodName) prog_4_method_7_code 3 (some (.object "java/lang/String")) ws ({ frames := 4, cells := 3, slots := 12, locals := 66 } : Room) #[(.ref ay)] h0 (Q_rof1 Z ay cy y0_ ah ch qc h0 n0) := by
  refine OCon.of (plainFor_of_name pn4) ?_
  intro p e s m below meth c s₁ Φ X0 hx hby hml hown hnm hret hlk hZ e0 hΦ
  have N0 := Fr.nil n0
  refine OGo.st (fun _ kz => castTop (ef_rof1 m ay) kz) ?_
  have K0 := Keep.refl h0 []
  show OG p e below Φ s₁ m 0 #[rv ay, .unset, .unset] []
  refine OGo.st (fun _ kz => XS.iconst X0.here hx rfl (hb hby d1_0) kz) ?_
  show OG p e below Φ s₁ m 1 #[rv ay, .unset, .unset] [(.int 2)]
  refine OGo.st (fun _ kz => XS.iconst X0.here hx rfl (hb hby d1_1) kz) ?_
  show OG p e below Φ s₁ m 2 #[rv ay, .unset, .unset] [(.int 2), (.int 2)]
  refine OGo.st (fun _ kz => XS.aloadN X0.here hx rfl (hb hby d1_2) rfl rfl kz) ?_
  show OG p e below Φ s₁ m 3 #[rv ay, .unset, .unset] [(.ref ay), (.int 2), (.int 2)]
  obtain ⟨cl1, Aq1, -, S1, M1, -, -⟩ := id V_y
  refine OGo.st (fun _ kz => X0.arraylength hx (by rw [e0]; exact Aq1.1) (State.isArrayOf_alike hZ.alike Aq1.2.1) (g := (mkF m 3 #[rv ay, .unset, .unset] [(.ref ay), (.int 2), (.int 2)])) rfl rfl (hb hby d1_3) _ kz) ?_
  rw [len_of S1 M1]
  show OG p e below Φ s₁ m 4 #[rv ay, .unset, .unset] [(.int 1), (.int 2), (.int 2)]
  refine OGo.st (fun _ kz => XS.imul X0.here hx rfl (hb hby d1_4) rfl kz) ?_
  show OG p e below Φ s₁ m 5 #[rv ay, .unset, .unset] [(.int 2), (.int 2)]
  refine OGo.st (fun _ kz => XS.iadd X0.here hx rfl (hb hby d1_5) rfl kz) ?_
  show OG p e below Φ s₁ m 6 #[rv ay, .unset, .unset] [(.int 4)]
  obtain ⟨T2, h2, c2, X2, e2, E2, Ar2, st2⟩ := newP (aty := .char) X0 hx hZ (ow5 hw) e0 (g := (mkF m 6 #[rv ay, .unset, .unset] [(.int 4)])) rfl (hb hby d1_6) rfl (by decide) (cap := 4) (by decide) (by decide) (by decide) (by decide)
  obtain ⟨b2, g2⟩ : ∃ z, z = h0.size := ⟨_, rfl⟩
  rw [← g2] at Ar2 st2
  have ne2_ah : ah ≠ b2 := by rw [g2]; exact Nat.ne_of_lt V_h.lt
  have ne2_ay : ay ≠ b2 := by rw [g2]; exact Nat.ne_of_lt V_y.lt
  have F3 := V_y.ext E2
  have F4 := V_h.ext E2
  have F5 := O_0.ext E2
  have gb2 : n0 ≤ b2 := Nat.le_trans Z0 (Nat.le_of_eq g2.symm)
  have sz2 : h0.size ≤ b2 := Nat.le_trans K0.1 (Nat.le_of_eq g2.symm)
  have K2 := K0.ext E2
  have Zs2 : n0 ≤ h2.size := Nat.le_trans Z0 E2.1
  have V2 : Arv Z h2 b2 c2 .char (4 : Int32) [(.int (0 : Int32)), (.int (0 : Int32)), (.int (0 : Int32)), (.int (0 : Int32))] (.int (0 : Int32)) := (Arv.new Ar2 (by decide)).pad (pad_rep [] _ 4)
  refine OGo.st st2 ?_
  show OG p e below Φ T2 m 8 #[rv ay, .unset, .unset] [(.ref b2)]
  refine OGo.st (fun _ kz => XS.astoreN X2.here hx rfl (hb hby d1_8) rfl rfl (l' := #[rv ay, rv b2, .unset]) rfl kz) ?_
  show OG p e below Φ T2 m 9 #[rv ay, rv b2, .unset] []
  refine OGo.st (fun _ kz => XS.aloadN X2.here hx rfl (hb hby d1_9) rfl rfl kz) ?_
  show OG p e below Φ T2 m 10 #[rv ay, rv b2, .unset] [(.ref b2)]
  refine OGo.st (fun _ kz => XS.iconst X2.here hx rfl (hb hby d1_10) kz) ?_
  show OG p e below Φ T2 m 11 #[rv ay, rv b2, .unset] [(.int 0), (.ref b2)]
  refine OGo.st (fun _ kz => XS.bipush X2.here hx rfl (hb hby d1_11) kz) ?_
  show OG p e below Φ T2 m 13 #[rv ay, rv b2, .unset] [(.int 92), (.int 0), (.ref b2)]
  obtain ⟨cl6, Aq6, Cq6, S6, M6, H6, G6⟩ := id V2
  have in6 : ¬ ((0 : Int32) < 0 ∨ cl6.slots.size ≤ (0 : Int32).toNatClampNeg) := inb_of S6 ⟨by decide, by decide⟩
  obtain ⟨T6, h6, X6, e6, W6, st6⟩ := stC X2 hx hZ e2 Aq6 in6 (g := (mkF m 13 #[rv ay, rv b2, .unset] [(.int 92), (.int 0), (.ref b2)])) rfl rfl (hb hby d1_13)
  have W6 : Wr h2 h6 b2 (0 : Int32).toNatClampNeg (.int (92 : Int32)) := W6
  have F7 := F3.other W6 ne2_ay
  have F8 := F4.other W6 ne2_ah
  have F9 := F5.wr W6 gb2
  have V6 : Arv Z h6 b2 c2 .char (4 : Int32) [(.int (92 : Int32)), (.int (0 : Int32)), (.int (0 : Int32)), (.int (0 : Int32))] (.int (0 : Int32)) := Arv.set Aq6 Cq6 S6 M6 H6 G6 (by decide) W6 0 (by decide) (by show 0 < 4; decide)
  have K6 := K2.wr W6 (Or.inr sz2)
  have N6 := Fr.snoc X6 N0 gb2
  have Zs6 : n0 ≤ h6.size := by rw [W6.size]; exact Zs2
  refine OGo.st st6 ?_
  show OG p e below Φ T6 m 14 #[rv ay, rv b2, .unset] []
  refine OGo.st (fun _ kz => XS.aloadN X6.here hx rfl (hb hby d1_14) rfl rfl kz) ?_
  show OG p e below Φ T6 m 15 #[rv ay, rv b2, .unset] [(.ref b2)]
  refine OGo.st (fun _ kz => XS.iconst X6.here hx rfl (hb hby d1_15) kz) ?_
  show OG p e below Φ T6 m 16 #[rv ay, rv b2, .unset] [(.int 1), (.ref b2)]
  refine OGo.st (fun _ kz => XS.bipush X6.here hx rfl (hb hby d1_16) kz) ?_
  show OG p e below Φ T6 m 18 #[rv ay, rv b2, .unset] [(.int 120), (.int 1), (.ref b2)]
  obtain ⟨cl10, Aq10, Cq10, S10, M10, H10, G10⟩ := id V6
  have in10 : ¬ ((1 : Int32) < 0 ∨ cl10.slots.size ≤ (1 : Int32).toNatClampNeg) := inb_of S10 ⟨by decide, by decide⟩
  obtain ⟨T10, h10, X10, e10, W10, st10⟩ := stC X6 hx hZ e6 Aq10 in10 (g := (mkF m 18 #[rv ay, rv b2, .unset] [(.int 120), (.int 1), (.ref b2)])) rfl rfl (hb hby d1_18)
  have W10 : Wr h6 h10 b2 (1 : Int32).toNatClampNeg (.int (120 : Int32)) := W10
  have F11 := F7.other W10 ne2_ay
  have F12 := F8.other W10 ne2_ah
  have F13 := F9.wr W10 gb2
  have V10 : Arv Z h10 b2 c2 .char (4 : Int32) [(.int (92 : Int32)), (.int (120 : Int32)), (.int (0 : Int32)), (.int (0 : Int32))] (.int (0 : Int32)) := Arv.set Aq10 Cq10 S10 M10 H10 G10 (by decide) W10 1 (by decide) (by show 1 < 4; decide)
  have K10 := K6.wr W10 (Or.inr sz2)
  have N10 := Fr.snoc X10 N6 gb2
  have Zs10 : n0 ≤ h10.size := by rw [W10.size]; exact Zs6
  refine OGo.st st10 ?_
  show OG p e below Φ T10 m 19 #[rv ay, rv b2, .unset] []
  refine OGo.st (fun _ kz => XS.iconst X10.here hx rfl (hb hby d1_19) kz) ?_
  show OG p e below Φ T10 m 20 #[rv ay, rv b2, .unset] [(.int 0)]
  refine OGo.st (fun _ kz => XS.istoreN X10.here hx rfl (hb hby d1_20) rfl (l' := #[rv ay, rv b2, iv 0]) rfl kz) ?_
  show OG p e below Φ T10 m 21 #[rv ay, rv b2, iv 0] []
  refine OGo.st (fun _ kz => XS.iloadN X10.here hx rfl (hb hby d1_21) rfl kz) ?_
  show OG p e below Φ T10 m 22 #[rv ay, rv b2, iv 0] [(.int 0)]
  refine OGo.st (fun _ kz => XS.aloadN X10.here hx rfl (hb hby d1_22) rfl rfl kz) ?_
  show OG p e below Φ T10 m 23 #[rv ay, rv b2, iv 0] [(.ref ay), (.int 0)]
  obtain ⟨cl14, Aq14, -, S14, M14, -, -⟩ := id F11
  refine OGo.st (fun _ kz => X10.arraylength hx (by rw [e10]; exact Aq14.1) (State.isArrayOf_alike hZ.alike Aq14.2.1) (g := (mkF m 23 #[rv ay, rv b2, iv 0] [(.ref ay), (.int 0)])) rfl rfl (hb hby d1_23) _ kz) ?_
  rw [len_of S14 M14]
  show OG p e below Φ T10 m 24 #[rv ay, rv b2, iv 0] [(.int 1), (.int 0)]
  refine OGo.st (fun _ kz => XS.icmpNo X10.here hx rfl (hb hby d1_24) rfl (XT.ii_ge_f (by decide)) kz) ?_
  show OG p e below Φ T10 m 27 #[rv ay, rv b2, iv 0] []
  refine OGo.st (fun _ kz => XS.aloadN X10.here hx rfl (hb hby d1_27) rfl rfl kz) ?_
  show OG p e below Φ T10 m 28 #[rv ay, rv b2, iv 0] [(.ref b2)]
  refine OGo.st (fun _ kz => XS.iconst X10.here hx rfl (hb hby d1_28) kz) ?_
  show OG p e below Φ T10 m 29 #[rv ay, rv b2, iv 0] [(.int 2), (.ref b2)]
  refine OGo.st (fun _ kz => XS.iconst X10.here hx rfl (hb hby d1_29) kz) ?_
  show OG p e below Φ T10 m 30 #[rv ay, rv b2, iv 0] [(.int 2), (.int 2), (.ref b2)]
  refine OGo.st (fun _ kz => XS.iloadN X10.here hx rfl (hb hby d1_30) rfl kz) ?_
  show OG p e below Φ T10 m 31 #[rv ay, rv b2, iv 0] [(.int 0), (.int 2), (.int 2), (.ref b2)]
  refine OGo.st (fun _ kz => XS.imul X10.here hx rfl (hb hby d1_31) rfl kz) ?_
  show OG p e below Φ T10 m 32 #[rv ay, rv b2, iv 0] [(.int 0), (.int 2), (.ref b2)]
  refine OGo.st (fun _ kz => XS.iadd X10.here hx rfl (hb hby d1_32) rfl kz) ?_
  show OG p e below Φ T10 m 33 #[rv ay, rv b2, iv 0] [(.int 2), (.ref b2)]
  have Sh15 := S_h.ext F13.2
  obtain ⟨T16, X16, e16, st16⟩ := getS2 X10 hx hZ hown (host := "") (Or.inl (ow66 hw)) Via.refl e10 Sh15 (g := (mkF m 33 #[rv ay, rv b2, iv 0] [(.int 2), (.ref b2)])) rfl (hb hby d1_33)
  refine OGo.st st16 ?_
  show OG p e below Φ T16 m 36 #[rv ay, rv b2, iv 0] [(.ref ah), (.int 2), (.ref b2)]
  refine OGo.st (fun _ kz => XS.aloadN X16.here hx rfl (hb hby d1_36) rfl rfl kz) ?_
  show OG p e below Φ T16 m 37 #[rv ay, rv b2, iv 0] [(.ref ay), (.ref ah), (.int 2), (.ref b2)]
  refine OGo.st (fun _ kz => XS.iloadN X16.here hx rfl (hb hby d1_37) rfl kz) ?_
  show OG p e below Φ T16 m 38 #[rv ay, rv b2, iv 0] [(.int 0), (.ref ay), (.ref ah), (.int 2), (.ref b2)]
  obtain ⟨cl17, Aq17, -, S17, M17, H17, -⟩ := id F11
  have in17 : ¬ ((0 : Int32) < 0 ∨ cl17.slots.size ≤ (0 : Int32).toNatClampNeg) := inb_of S17 ⟨by decide, by decide⟩
  have at17 : cl17.slots[(0 : Int32).toNatClampNeg]? = some (.int y0_) := H17.at in17 rfl
  refine OGo.st (fun _ kz => X16.baloadBytes hx (by rw [e16]; exact Aq17.1) (State.isArrayOf_alike hZ.alike Aq17.2.1) Aq17.2.2 in17 at17 (g := (mkF m 38 #[rv ay, rv b2, iv 0] [(.int 0), (.ref ay), (.ref ah), (.int 2), (.ref b2)])) rfl rfl (hb hby d1_38) _ kz) ?_
  show OG p e below Φ T16 m 39 #[rv ay, rv b2, iv 0] [(.int y0_), (.ref ah), (.int 2), (.ref b2)]
  refine OGo.st (fun _ kz => XS.iconst X16.here hx rfl (hb hby d1_39) kz) ?_
  show OG p e below Φ T16 m 40 #[rv ay, rv b2, iv 0] [(.int 4), (.int y0_), (.ref ah), (.int 2), (.ref b2)]
  refine OGo.st (fun _ kz => XT.ishr X16.here hx rfl (hb hby d1_40) rfl kz) ?_
  show OG p e below Φ T16 m 41 #[rv ay, rv b2, iv 0] [(.int (y0_ >>> ((4 : Int32) &&& 31))), (.ref ah), (.int 2), (.ref b2)]
  refine OGo.st (fun _ kz => XS.bipush X16.here hx rfl (hb hby d1_41) kz) ?_
  show OG p e below Φ T16 m 43 #[rv ay, rv b2, iv 0] [(.int 15), (.int (y0_ >>> ((4 : Int32) &&& 31))), (.ref ah), (.int 2), (.ref b2)]
  refine OGo.st (fun _ kz => XS.iand X16.here hx rfl (hb hby d1_43) rfl kz) ?_
  show OG p e below Φ T16 m 44 #[rv ay, rv b2, iv 0] [(.int ((y0_ >>> ((4 : Int32) &&& 31)) &&& (15 : Int32))), (.ref ah), (.int 2), (.ref b2)]
  obtain ⟨cl18, Aq18, -, S18, M18, H18, -⟩ := id F12
  refine OGo.st (fun _ kz => X16.caload hx (by rw [e16]; exact Aq18.1) (State.isArrayOf_alike hZ.alike Aq18.2.1) Aq18.2.2 (inb_of S18 (own_m15 (y0_ >>> ((4 : Int32) &&& 31)))) (own_hexAt S18 H18 (y0_ >>> ((4 : Int32) &&& 31))) (g := (mkF m 44 #[rv ay, rv b2, iv 0] [(.int ((y0_ >>> ((4 : Int32) &&& 31)) &&& (15 : Int32))), (.ref ah), (.int 2), (.ref b2)])) rfl rfl (hb hby d1_44) _ kz) ?_
  show OG p e below Φ T16 m 45 #[rv ay, rv b2, iv 0] [(.int (own_hx ((y0_ >>> ((4 : Int32) &&& 31)) &&& (15 : Int32)))), (.int 2), (.ref b2)]
  obtain ⟨cl19, Aq19, Cq19, S19, M19, H19, G19⟩ := id V10
  have in19 : ¬ ((2 : Int32) < 0 ∨ cl19.slots.size ≤ (2 : Int32).toNatClampNeg) := inb_of S19 ⟨by decide, by decide⟩
  obtain ⟨T19, h19, X19, e19, W19, st19⟩ := stC X16 hx hZ e16 Aq19 in19 (g := (mkF m 45 #[rv ay, rv b2, iv 0] [(.int (own_hx ((y0_ >>> ((4 : Int32) &&& 31)) &&& (15 : Int32)))), (.int 2), (.ref b2)])) rfl rfl (hb hby d1_45)
  have W19 : Wr h10 h19 b2 (2 : Int32).toNatClampNeg (.int (nar .char (own_hx ((y0_ >>> ((4 : Int32) &&& 31)) &&& (15 : Int32))))) := W19
  have F20 := F11.other W19 ne2_ay
  have F21 := F12.other W19 ne2_ah
  have F22 := F13.wr W19 gb2
  have V19 : Arv Z h19 b2 c2 .char (4 : Int32) [(.int (92 : Int32)), (.int (120 : Int32)), (.int (nar .char (own_hx ((y0_ >>> ((4 : Int32) &&& 31)) &&& (15 : Int32))))), (.int (0 : Int32))] (.int (0 : Int32)) := Arv.set Aq19 Cq19 S19 M19 H19 G19 (fits_nar_char _) W19 2 (by decide) (by show 2 < 4; decide)
  have K19 := K10.wr W19 (Or.inr sz2)
  have N19 := Fr.snoc X19 N10 gb2
  have Zs19 : n0 ≤ h19.size := by rw [W19.size]; exact Zs10
  refine OGo.st st19 ?_
  show OG p e below Φ T19 m 46 #[rv ay, rv b2, iv 0] []
  refine OGo.st (fun _ kz => XS.aloadN X19.here hx rfl (hb hby d1_46) rfl rfl kz) ?_
  show OG p e below Φ T19 m 47 #[rv ay, rv b2, iv 0] [(.ref b2)]
  refine OGo.st (fun _ kz => XS.iconst X19.here hx rfl (hb hby d1_47) kz) ?_
  show OG p e below Φ T19 m 48 #[rv ay, rv b2, iv 0] [(.int 3), (.ref b2)]
  refine OGo.st (fun _ kz => XS.iconst X19.here hx rfl (hb hby d1_48) kz) ?_
  show OG p e below Φ T19 m 49 #[rv ay, rv b2, iv 0] [(.int 2), (.int 3), (.ref b2)]
  refine OGo.st (fun _ kz => XS.iloadN X19.here hx rfl (hb hby d1_49) rfl kz) ?_
  show OG p e below Φ T19 m 50 #[rv ay, rv b2, iv 0] [(.int 0), (.int 2), (.int 3), (.ref b2)]
  refine OGo.st (fun _ kz => XS.imul X19.here hx rfl (hb hby d1_50) rfl kz) ?_
  show OG p e below Φ T19 m 51 #[rv ay, rv b2, iv 0] [(.int 0), (.int 3), (.ref b2)]
  refine OGo.st (fun _ kz => XS.iadd X19.here hx rfl (hb hby d1_51) rfl kz) ?_
  show OG p e below Φ T19 m 52 #[rv ay, rv b2, iv 0] [(.int 3), (.ref b2)]
  have Sh23 := S_h.ext F22.2
  obtain ⟨T24, X24, e24, st24⟩ := getS2 X19 hx hZ hown (host := "") (Or.inl (ow66 hw)) Via.refl e19 Sh23 (g := (mkF m 52 #[rv ay, rv b2, iv 0] [(.int 3), (.ref b2)])) rfl (hb hby d1_52)
  refine OGo.st st24 ?_
  show OG p e below Φ T24 m 55 #[rv ay, rv b2, iv 0] [(.ref ah), (.int 3), (.ref b2)]
  refine OGo.st (fun _ kz => XS.aloadN X24.here hx rfl (hb hby d1_55) rfl rfl kz) ?_
  show OG p e below Φ T24 m 56 #[rv ay, rv b2, iv 0] [(.ref ay), (.ref ah), (.int 3), (.ref b2)]
  refine OGo.st (fun _ kz => XS.iloadN X24.here hx rfl (hb hby d1_56) rfl kz) ?_
  show OG p e below Φ T24 m 57 #[rv ay, rv b2, iv 0] [(.int 0), (.ref ay), (.ref ah), (.int 3), (.ref b2)]
  obtain ⟨cl25, Aq25, -, S25, M25, H25, -⟩ := id F20
  have in25 : ¬ ((0 : Int32) < 0 ∨ cl25.slots.size ≤ (0 : Int32).toNatClampNeg) := inb_of S25 ⟨by decide, by decide⟩
  have at25 : cl25.slots[(0 : Int32).toNatClampNeg]? = some (.int y0_) := H25.at in25 rfl
  refine OGo.st (fun _ kz => X24.baloadBytes hx (by rw [e24]; exact Aq25.1) (State.isArrayOf_alike hZ.alike Aq25.2.1) Aq25.2.2 in25 at25 (g := (mkF m 57 #[rv ay, rv b2, iv 0] [(.int 0), (.ref ay), (.ref ah), (.int 3), (.ref b2)])) rfl rfl (hb hby d1_57) _ kz) ?_
  show OG p e below Φ T24 m 58 #[rv ay, rv b2, iv 0] [(.int y0_), (.ref ah), (.int 3), (.ref b2)]
  refine OGo.st (fun _ kz => XS.bipush X24.here hx rfl (hb hby d1_58) kz) ?_
  show OG p e below Φ T24 m 60 #[rv ay, rv b2, iv 0] [(.int 15), (.int y0_), (.ref ah), (.int 3), (.ref b2)]
  refine OGo.st (fun _ kz => XS.iand X24.here hx rfl (hb hby d1_60) rfl kz) ?_
  show OG p e below Φ T24 m 61 #[rv ay, rv b2, iv 0] [(.int (y0_ &&& (15 : Int32))), (.ref ah), (.int 3), (.ref b2)]
  obtain ⟨cl26, Aq26, -, S26, M26, H26, -⟩ := id F21
  refine OGo.st (fun _ kz => X24.caload hx (by rw [e24]; exact Aq26.1) (State.isArrayOf_alike hZ.alike Aq26.2.1) Aq26.2.2 (inb_of S26 (own_m15 y0_)) (own_hexAt S26 H26 y0_) (g := (mkF m 61 #[rv ay, rv b2, iv 0] [(.int (y0_ &&& (15 : Int32))), (.ref ah), (.int 3), (.ref b2)])) rfl rfl (hb hby d1_61) _ kz) ?_
  show OG p e below Φ T24 m 62 #[rv ay, rv b2, iv 0] [(.int (own_hx (y0_ &&& (15 : Int32)))), (.int 3), (.ref b2)]
  obtain ⟨cl27, Aq27, Cq27, S27, M27, H27, G27⟩ := id V19
  have in27 : ¬ ((3 : Int32) < 0 ∨ cl27.slots.size ≤ (3 : Int32).toNatClampNeg) := inb_of S27 ⟨by decide, by decide⟩
  obtain ⟨T27, h27, X27, e27, W27, st27⟩ := stC X24 hx hZ e24 Aq27 in27 (g := (mkF m 62 #[rv ay, rv b2, iv 0] [(.int (own_hx (y0_ &&& (15 : Int32)))), (.int 3), (.ref b2)])) rfl rfl (hb hby d1_62)
  have W27 : Wr h19 h27 b2 (3 : Int32).toNatClampNeg (.int (nar .char (own_hx (y0_ &&& (15 : Int32))))) := W27
  have F28 := F20.other W27 ne2_ay
  have F29 := F21.other W27 ne2_ah
  have F30 := F22.wr W27 gb2
  have V27 : Arv Z h27 b2 c2 .char (4 : Int32) [(.int (92 : Int32)), (.int (120 : Int32)), (.int (nar .char (own_hx ((y0_ >>> ((4 : Int32) &&& 31)) &&& (15 : Int32))))), (.int (nar .char (own_hx (y0_ &&& (15 : Int32)))))] (.int (0 : Int32)) := Arv.set Aq27 Cq27 S27 M27 H27 G27 (fits_nar_char _) W27 3 (by decide) (by show 3 < 4; decide)
  have K27 := K19.wr W27 (Or.inr sz2)
  have N27 := Fr.snoc X27 N19 gb2
  have Zs27 : n0 ≤ h27.size := by rw [W27.size]; exact Zs19
  refine OGo.st st27 ?_
  show OG p e below Φ T27 m 63 #[rv ay, rv b2, iv 0] []
  refine OGo.st (fun _ kz => XS.iinc X27.here hx rfl (hb hby d1_63) rfl (l' := #[rv ay, rv b2, iv ((0 : Int32) + (1 : Int32))]) rfl kz) ?_
  show OG p e below Φ T27 m 66 #[rv ay, rv b2, iv 1] []
  refine OGo.st (fun _ kz => XS.goto X27.here hx rfl (pc0 := 66) (pc' := 21) rfl (hb hby d1_66) (by decide) (by decide) kz) ?_
  show OG p e below Φ T27 m 21 #[rv ay, rv b2, iv 1] []
  refine OGo.st (fun _ kz => XS.iloadN X27.here hx rfl (hb hby d1_21) rfl kz) ?_
  show OG p e below Φ T27 m 22 #[rv ay, rv b2, iv 1] [(.int 1)]
  refine OGo.st (fun _ kz => XS.aloadN X27.here hx rfl (hb hby d1_22) rfl rfl kz) ?_
  show OG p e below Φ T27 m 23 #[rv ay, rv b2, iv 1] [(.ref ay), (.int 1)]
  obtain ⟨cl31, Aq31, -, S31, M31, -, -⟩ := id F28
  refine OGo.st (fun _ kz => X27.arraylength hx (by rw [e27]; exact Aq31.1) (State.isArrayOf_alike hZ.alike Aq31.2.1) (g := (mkF m 23 #[rv ay, rv b2, iv 1] [(.ref ay), (.int 1)])) rfl rfl (hb hby d1_23) _ kz) ?_
  rw [len_of S31 M31]
  show OG p e below Φ T27 m 24 #[rv ay, rv b2, iv 1] [(.int 1), (.int 1)]
  refine OGo.st (fun _ kz => XS.icmpYes X27.here hx rfl (pc0 := 24) (pc' := 69) rfl (hb hby d1_24) rfl (XT.ii_ge_t (by decide)) (by decide) (by decide) kz) ?_
  show OG p e below Φ T27 m 69 #[rv ay, rv b2, iv 1] []
  obtain ⟨T32, h32, X32, e32, E32, A32, D32, U32, st32⟩ := newO X27 hx hZ hown (ow6 hw) (ow7 hw) (ow8 hw) e27 (g := (mkF m 69 #[rv ay, rv b2, iv 1] [])) rfl (hb hby d1_69) (by decide) (by decide)
  obtain ⟨b32, g32⟩ : ∃ z, z = h27.size := ⟨_, rfl⟩
  rw [← g32] at A32 D32 st32 U32
  have ne32_ah : ah ≠ b32 := by rw [g32]; exact Nat.ne_of_lt F29.lt
  have ne32_ay : ay ≠ b32 := by rw [g32]; exact Nat.ne_of_lt F28.lt
  have ne32_b2 : b2 ≠ b32 := by rw [g32]; exact Nat.ne_of_lt V27.lt
  have F33 := F28.ext E32
  have F34 := F29.ext E32
  have F35 := F30.ext E32
  have F36 := V27.ext E32
  have gb32 : n0 ≤ b32 := Nat.le_trans Zs27 (Nat.le_of_eq g32.symm)
  have K32 := K27.ext E32
  have sz32 : h0.size ≤ b32 := Nat.le_trans K27.1 (Nat.le_of_eq g32.symm)
  have Zs32 : n0 ≤ h32.size := Nat.le_trans Zs27 E32.1
  have F32_31 : Fld Z h32 b32 "java/lang/String" "coder" "B" (.int (0 : Int32)) := D32 (Or.inr (ow31 hw)) (ty := .byte) (by decide)
  have F32_33 : Fld Z h32 b32 "java/lang/String" "value" "[B" .null := D32 (Or.inr (ow33 hw)) (ty := (.array .byte)) (by decide)
  refine OGo.st (st32) ?_
  show OG p e below Φ T32 m 72 #[rv ay, rv b2, iv 1] [(.ref b32)]
  refine OGo.st (fun _ kz => XS.dup X32.here hx rfl (hb hby d1_72) rfl rfl kz) ?_
  show OG p e below Φ T32 m 73 #[rv ay, rv b2, iv 1] [(.ref b32), (.ref b32)]
  refine OGo.st (fun _ kz => XS.aloadN X32.here hx rfl (hb hby d1_73) rfl rfl kz) ?_
  show OG p e below Φ T32 m 74 #[rv ay, rv b2, iv 1] [(.ref b2), (.ref b32), (.ref b32)]
  obtain ⟨_, T37, L37, X37, hQ37, st37⟩ := own_callSp X32 hx hZ rfl hown (ow9 hw) (ow10 hw) (ow8 hw) (ow11 hw) (by decide) (rs4i1 l Z a0 hw [] b32 b2 c2 qc (92 : Int32) (120 : Int32) (nar .char (own_hx ((y0_ >>> ((4 : Int32) &&& 31)) &&& (15 : Int32)))) (nar .char (own_hx (y0_ &&& (15 : Int32)))) h32 n0 Zs32 A32 gb32 F32_33 F32_31 F36 (Ne.symm ne32_b2) (S_cs.ext F35.2) hq (by decide) (by decide) (own_hx255 _) (own_hx255 _)) e32 (W := 1) (by decide) (by decide) (by decide) (by decide) (pc := 74) (ls := #[rv ay, rv b2, iv 1]) (stk := [(.ref b2), (.ref b32), (.ref b32)]) (by rw [hml]; rfl) (a := b32) (argsL := [(.ref b2)]) (rest := [(.ref b32)]) (lenOf pd5 rfl) rfl rfl (Nat.le_of_eq rfl) (hb hby d1_74)
  obtain ⟨rfl, Nq37, Kq37, Eq37, b37, cb37, Fv37, Fc37, Vq37, hz37⟩ := hQ37
  have nq37_ah : ah ≠ b37 := Nat.ne_of_lt (Nat.lt_of_lt_of_le F34.lt hz37)
  have nq37_ay : ay ≠ b37 := Nat.ne_of_lt (Nat.lt_of_lt_of_le F33.lt hz37)
  have nq37_b2 : b2 ≠ b37 := Nat.ne_of_lt (Nat.lt_of_lt_of_le F36.lt hz37)
  have nq37_b32 : b32 ≠ b37 := Nat.ne_of_lt (Nat.lt_of_lt_of_le A32.lt hz37)
  have gq37 : n0 ≤ b37 := Nat.le_trans Zs32 hz37
  have sq37 : h0.size ≤ b37 := Nat.le_trans K32.1 hz37
  have N37 := Fr.app N27 Nq37
  have Zs37 : n0 ≤ T37.heap.size := Nat.le_trans Zs32 Kq37.1
  have F38 := F33.keep Kq37 (ninS ne32_ay nin0)
  have F39 := F34.keep Kq37 (ninS ne32_ah nin0)
  have F40 := F35.keep Kq37 (allS gb32 all0)
  have F41 := F36.keep Kq37 (ninS ne32_b2 nin0)
  have K37 := K32.trans Kq37 (allS (Or.inr sz32) all0)
  refine OGo.st st37 ?_
  show OG p e below Φ T37 m 77 #[rv ay, rv b2, iv 1] [(.ref b32)]
  refine OGo.fin X37 hlk (v := (some (.ref b32))) (fun h => by rw [hret] at h; cases h) (by decide) (by decide) (fun fs hr => X37.areturnOut hx rfl hret rfl (hb hby d1_77) hr) fun U eU hF => hΦ _ _ _ ?_ hF
  rw [eU]
  show Q_rof1 Z ay cy y0_ ah ch qc h0 n0 _ _ _
  exact ⟨_, _, _, rfl, N37, K37, Eq37, Fv37, Fc37, Vq37, sz32, sq37, nq37_b32⟩

theorem ef_rgle4 (m : MethodId) (x0 : Addr) : entryFrame m #[(.ref x0)] 1 = mkF m 0 #[.val (.ref x0)] [] := by first | (simp [entryFrame, mkF, argsToLocals, Value.category]; done) | rfl
def Q_rgle4 (Z : State) (s_ : Addr) (b : Addr) (cb : ClassId) (qc : Int32) (c0_ : Int32) (c1_ : Int32) (c2_ : Int32) (c3_ : Int32) (h0 : Heap) (n0 : Nat) (v : Option Value) (h : Heap) (L : List Loc) : Prop := v = some (.int (4 : Int32)) ∧ Fr n0 L ∧ h = h0
set_option maxRecDepth 65536 in
set_option maxHeartbeats 40000000 in
theorem rgle4 (l : Launch) (Z : State) (a0 : Array Value) (hw : ∀ d ∈ tables_1, d.before a0 Z = true) (ws : List Jvm.Cond) (s_ : Addr) (b : Addr) (cb : ClassId) (qc : Int32) (c0_ : Int32) (c1_ : Int32) (c2_ : Int32) (c3_ : Int32) (h0 : Heap) (n0 : Nat) (Z0 : n0 ≤ h0.size) (E_s : Exa Z h0 s_ "java/lang/String") (F_v : Fld Z h0 s_ "java/lang/String" "value" "[B" (.ref b)) (F_c : Fld Z h0 s_ "java/lang/String" "coder" "B" (.int (0 : Int32))) (V_b : Arv Z h0 b cb .byte (4 : Int32) [(.int c0_), (.int c1_), (.int c2_), (.int c3_)] (.int (0 : Int32))) (S_q : Sta Z h0 "java/lang/String" "COMPACT_STRINGS" "Z" (.int qc)) (hq : ¬ qc = 0) :
    OCon l Z (⟨"java/lang/String", "length", "()I"⟩ : MethodName) jdk_42_method_54_code 1 (some .int) ws ({ frames := 1, cells := 0, slots := 0, locals := 13 } : Room) #[(.ref s_)] h0 (Q_rgle4 Z s_ b cb qc c0_ c1_ c2_ c3_ h0 n0) := by
  refine OCon.of (plainFor_of_name pn0) ?_
  intro p e s m below meth c s₁ Φ X0 hx hby hml hown hnm hret hlk hZ e0 hΦ
  have N0 := Fr.nil n0
  refine OGo.st (fun _ kz => castTop (ef_rgle4 m s_) kz) ?_
  show OG p e below Φ s₁ m 0 #[rv s_] []
  refine OGo.st (fun _ kz => XS.aloadN X0.here hx rfl (hb hby d8_0) rfl rfl kz) ?_
  show OG p e below Φ s₁ m 1 #[rv s_] [(.ref s_)]
  obtain ⟨T1, X1, e1, st1⟩ := getF X0 hx hZ hown (host := "") (Or.inl (ow32 hw)) Via.refl e0 F_v (g := (mkF m 1 #[rv s_] [(.ref s_)])) rfl rfl (hb hby d8_1)
  refine OGo.st st1 ?_
  show OG p e below Φ T1 m 4 #[rv s_] [(.ref b)]
  obtain ⟨cl2, Aq2, -, S2, M2, -, -⟩ := id V_b
  refine OGo.st (fun _ kz => X1.arraylength hx (by rw [e1]; exact Aq2.1) (State.isArrayOf_alike hZ.alike Aq2.2.1) (g := (mkF m 4 #[rv s_] [(.ref b)])) rfl rfl (hb hby d8_4) _ kz) ?_
  rw [len_of S2 M2]
  show OG p e below Φ T1 m 5 #[rv s_] [(.int 4)]
  refine OGo.st (fun _ kz => XS.aloadN X1.here hx rfl (hb hby d8_5) rfl rfl kz) ?_
  show OG p e below Φ T1 m 6 #[rv s_] [(.ref s_), (.int 4)]
  obtain ⟨_, T3, L3, X3, hQ3, st3⟩ := own_callVi X1 hx hZ hown (ow39 hw) (ow40 hw) (notFace_of_selects (args := #[]) (mvT hZ (ow42 hw))) (ow42 hw) (ow41 hw) (ow8 hw) (ow43 hw) (by decide) (rgco l Z a0 hw [] s_ qc h0 n0 Z0 F_c S_q hq) e1 (W := 1) (by decide) (by decide) (by decide) (by decide) E_s (pc := 6) (ls := #[rv s_]) (stk := [(.ref s_), (.int 4)]) (by rw [hml]; rfl) (argsL := []) (rest := [(.int 4)]) (lenOf pd6 rfl) rfl rfl (Nat.le_of_eq rfl) (hb hby d8_6)
  obtain ⟨rfl, Nq3, e3⟩ := hQ3
  have N3 := Fr.app N0 Nq3
  refine OGo.st st3 ?_
  show OG p e below Φ T3 m 9 #[rv s_] [(.int 0), (.int 4)]
  refine OGo.st (fun _ kz => XT.ishr X3.here hx rfl (hb hby d8_9) rfl kz) ?_
  show OG p e below Φ T3 m 10 #[rv s_] [(.int 4)]
  refine OGo.fin X3 hlk (v := (some (.int 4))) (fun h => by rw [hret] at h; cases h) (by decide) (by decide) (fun fs hr => X3.ireturnOut hx hret rfl (by simp) (hb hby d8_10) hr) fun U eU hF => hΦ _ _ _ ?_ hF
  rw [eU, e3]
  show Q_rgle4 Z s_ b cb qc c0_ c1_ c2_ c3_ h0 n0 _ _ _
  exact ⟨rfl, N3, rfl⟩

theorem ef_rgl4_0 (m : MethodId) (x0 : Addr) (x1 : Int32) : entryFrame m #[(.ref x0), (.int x1)] 2 = mkF m 0 #[.val (.ref x0), .val (.int x1)] [] := by first | (simp [entryFrame, mkF, argsToLocals, Value.category]; done) | rfl
def Q_rgl4_0 (Z : State) (b : Addr) (cb : ClassId) (vf : Value) (c0_ : Int32) (c1_ : Int32) (c2_ : Int32) (c3_ : Int32) (h0 : Heap) (n0 : Nat) (v : Option Value) (h : Heap) (L : List Loc) : Prop := v = some (.int ((c0_ &&& (255 : Int32)).toUInt32.toUInt16.toUInt32.toInt32)) ∧ Fr n0 L ∧ h = h0
set_option maxRecDepth 65536 in
set_option maxHeartbeats 40000000 in
theorem rgl4_0 (l : Launch) (Z : State) (a0 : Array Value) (hw : ∀ d ∈ tables_1, d.before a0 Z = true) (ws : List Jvm.Cond) (b : Addr) (cb : ClassId) (vf : Value) (c0_ : Int32) (c1_ : Int32) (c2_ : Int32) (c3_ : Int32) (h0 : Heap) (n0 : Nat) (Z0 : n0 ≤ h0.size) (V_b : Arv Z h0 b cb .byte (4 : Int32) [(.int c0_), (.int c1_), (.int c2_), (.int c3_)] (.int (0 : Int32))) (S_f : Sta Z h0 "jdk/internal/util/Preconditions" "SIOOBE_FORMATTER" "Ljava/util/function/BiFunction;" vf) (rvf : vf.isRef = true) :
    OCon l Z (⟨"java/lang/StringLatin1", "charAt", "([BI)C"⟩ : MethodName) jdk_43_method_2_code 2 (some .char) ws ({ frames := 2, cells := 0, slots := 0, locals := 27 } : Room) #[(.ref b), (.int (0 : Int32))] h0 (Q_rgl4_0 Z b cb vf c0_ c1_ c2_ c3_ h0 n0) := by
  refine OCon.of (plainFor_of_name pn5) ?_
  intro p e s m below meth c s₁ Φ X0 hx hby hml hown hnm hret hlk hZ e0 hΦ
  have N0 := Fr.nil n0
  refine OGo.st (fun _ kz => castTop (ef_rgl4_0 m b (0 : Int32)) kz) ?_
  show OG p e below Φ s₁ m 0 #[rv b, iv 0] []
  refine OGo.st (fun _ kz => XS.iloadN X0.here hx rfl (hb hby d12_0) rfl kz) ?_
  show OG p e below Φ s₁ m 1 #[rv b, iv 0] [(.int 0)]
  refine OGo.st (fun _ kz => XS.aloadN X0.here hx rfl (hb hby d12_1) rfl rfl kz) ?_
  show OG p e below Φ s₁ m 2 #[rv b, iv 0] [(.ref b), (.int 0)]
  obtain ⟨cl1, Aq1, -, S1, M1, -, -⟩ := id V_b
  refine OGo.st (fun _ kz => X0.arraylength hx (by rw [e0]; exact Aq1.1) (State.isArrayOf_alike hZ.alike Aq1.2.1) (g := (mkF m 2 #[rv b, iv 0] [(.ref b), (.int 0)])) rfl rfl (hb hby d12_2) _ kz) ?_
  rw [len_of S1 M1]
  show OG p e below Φ s₁ m 3 #[rv b, iv 0] [(.int 4), (.int 0)]
  obtain ⟨_, T2, L2, X2, hQ2, st2⟩ := own_callSt X0 hx hZ hown (ow58 hw) (ow59 hw) (ow8 hw) (ow60 hw) (by decide) (rgci l Z a0 hw [] (0 : Int32) (4 : Int32) vf h0 n0 Z0 (by decide) (by decide) S_f rvf) e0 (W := 0) (by decide) (by decide) (by decide) (by decide) (pc := 3) (ls := #[rv b, iv 0]) (stk := [(.int 4), (.int 0)]) (by rw [hml]; rfl) (argsL := [(.int 0), (.int 4)]) (rest := []) (lenOf pd7 rfl) rfl rfl (Nat.le_of_eq rfl) (hb hby d12_3)
  obtain ⟨rfl, Nq2, e2⟩ := hQ2
  have N2 := Fr.app N0 Nq2
  refine OGo.st st2 ?_
  show OG p e below Φ T2 m 6 #[rv b, iv 0] []
  refine OGo.st (fun _ kz => XS.aloadN X2.here hx rfl (hb hby d12_6) rfl rfl kz) ?_
  show OG p e below Φ T2 m 7 #[rv b, iv 0] [(.ref b)]
  refine OGo.st (fun _ kz => XS.iloadN X2.here hx rfl (hb hby d12_7) rfl kz) ?_
  show OG p e below Φ T2 m 8 #[rv b, iv 0] [(.int 0), (.ref b)]
  obtain ⟨cl3, Aq3, -, S3, M3, H3, -⟩ := id V_b
  have in3 : ¬ ((0 : Int32) < 0 ∨ cl3.slots.size ≤ (0 : Int32).toNatClampNeg) := inb_of S3 ⟨by decide, by decide⟩
  have at3 : cl3.slots[(0 : Int32).toNatClampNeg]? = some (.int c0_) := H3.at in3 rfl
  refine OGo.st (fun _ kz => X2.baloadBytes hx (by rw [e2]; exact Aq3.1) (State.isArrayOf_alike hZ.alike Aq3.2.1) Aq3.2.2 in3 at3 (g := (mkF m 8 #[rv b, iv 0] [(.int 0), (.ref b)])) rfl rfl (hb hby d12_8) _ kz) ?_
  show OG p e below Φ T2 m 9 #[rv b, iv 0] [(.int c0_)]
  refine OGo.st (fun _ kz => XS.sipush X2.here hx rfl (hb hby d12_9) kz) ?_
  show OG p e below Φ T2 m 12 #[rv b, iv 0] [(.int 255), (.int c0_)]
  refine OGo.st (fun _ kz => XS.iand X2.here hx rfl (hb hby d12_12) rfl kz) ?_
  show OG p e below Φ T2 m 13 #[rv b, iv 0] [(.int (c0_ &&& (255 : Int32)))]
  refine OGo.st (fun _ kz => XT.i2c X2.here hx rfl (hb hby d12_13) rfl kz) ?_
  show OG p e below Φ T2 m 14 #[rv b, iv 0] [(.int ((c0_ &&& (255 : Int32)).toUInt32.toUInt16.toUInt32.toInt32))]
  refine OGo.fin X2 hlk (v := (some (.int ((c0_ &&& (255 : Int32)).toUInt32.toUInt16.toUInt32.toInt32)))) (fun h => by rw [hret] at h; cases h) (by decide) (by decide) (fun fs hr => X2.ireturnOut hx hret (XT.narrow_c _) (by simp) (hb hby d12_14) hr) fun U eU hF => hΦ _ _ _ ?_ hF
  rw [eU, e2]
  show Q_rgl4_0 Z b cb vf c0_ c1_ c2_ c3_ h0 n0 _ _ _
  exact ⟨rfl, N2, rfl⟩

theorem ef_rgh4_0 (m : MethodId) (x0 : Addr) (x1 : Int32) : entryFrame m #[(.ref x0), (.int x1)] 2 = mkF m 0 #[.val (.ref x0), .val (.int x1)] [] := by first | (simp [entryFrame, mkF, argsToLocals, Value.category]; done) | rfl
def Q_rgh4_0 (Z : State) (s_ : Addr) (b : Addr) (cb : ClassId) (qc : Int32) (vf : Value) (c0_ : Int32) (c1_ : Int32) (c2_ : Int32) (c3_ : Int32) (h0 : Heap) (n0 : Nat) (v : Option Value) (h : Heap) (L : List Loc) : Prop := v = some (.int ((c0_ &&& (255 : Int32)).toUInt32.toUInt16.toUInt32.toInt32)) ∧ Fr n0 L ∧ h = h0
set_option maxRecDepth 65536 in
set_option maxHeartbeats 40000000 in
theorem rgh4_0 (l : Launch) (Z : State) (a0 : Array Value) (hw : ∀ d ∈ tables_1, d.before a0 Z = true) (ws : List Jvm.Cond) (s_ : Addr) (b : Addr) (cb : ClassId) (qc : Int32) (vf : Value) (c0_ : Int32) (c1_ : Int32) (c2_ : Int32) (c3_ : Int32) (h0 : Heap) (n0 : Nat) (Z0 : n0 ≤ h0.size) (E_s : Exa Z h0 s_ "java/lang/String") (F_v : Fld Z h0 s_ "java/lang/String" "value" "[B" (.ref b)) (F_c : Fld Z h0 s_ "java/lang/String" "coder" "B" (.int (0 : Int32))) (V_b : Arv Z h0 b cb .byte (4 : Int32) [(.int c0_), (.int c1_), (.int c2_), (.int c3_)] (.int (0 : Int32))) (S_q : Sta Z h0 "java/lang/String" "COMPACT_STRINGS" "Z" (.int qc)) (hq : ¬ qc = 0) (S_f : Sta Z h0 "jdk/internal/util/Preconditions" "SIOOBE_FORMATTER" "Ljava/util/function/BiFunction;" vf) (rvf : vf.isRef = true) :
    OCon l Z (⟨"java/lang/String", "charAt", "(I)C"⟩ : MethodName) jdk_42_method_56_code 2 (some .char) ws ({ frames := 3, cells := 0, slots := 0, locals := 40 } : Room) #[(.ref s_), (.int (0 : Int32))] h0 (Q_rgh4_0 Z s_ b cb qc vf c0_ c1_ c2_ c3_ h0 n0) := by
  refine OCon.of (plainFor_of_name pn0) ?_
  intro p e s m below meth c s₁ Φ X0 hx hby hml hown hnm hret hlk hZ e0 hΦ
  have N0 := Fr.nil n0
  refine OGo.st (fun _ kz => castTop (ef_rgh4_0 m s_ (0 : Int32)) kz) ?_
  show OG p e below Φ s₁ m 0 #[rv s_, iv 0] []
  refine OGo.st (fun _ kz => XS.aloadN X0.here hx rfl (hb hby d10_0) rfl rfl kz) ?_
  show OG p e below Φ s₁ m 1 #[rv s_, iv 0] [(.ref s_)]
  obtain ⟨_, T1, L1, X1, hQ1, st1⟩ := own_callVi X0 hx hZ hown (ow49 hw) (ow50 hw) (notFace_of_selects (args := #[]) (mvT hZ (ow52 hw))) (ow52 hw) (ow51 hw) (ow8 hw) (ow53 hw) (by decide) (rgis l Z a0 hw [] s_ qc h0 n0 Z0 F_c S_q hq) e0 (W := 0) (by decide) (by decide) (by decide) (by decide) E_s (pc := 1) (ls := #[rv s_, iv 0]) (stk := [(.ref s_)]) (by rw [hml]; rfl) (argsL := []) (rest := []) (lenOf pd8 rfl) rfl rfl (Nat.le_of_eq rfl) (hb hby d10_1)
  obtain ⟨rfl, Nq1, e1⟩ := hQ1
  have N1 := Fr.app N0 Nq1
  refine OGo.st st1 ?_
  show OG p e below Φ T1 m 4 #[rv s_, iv 0] [(.int 1)]
  refine OGo.st (fun _ kz => XS.ifNo X1.here hx rfl (hb hby d10_4) rfl (XT.i0_eq_f (by decide)) kz) ?_
  show OG p e below Φ T1 m 7 #[rv s_, iv 0] []
  refine OGo.st (fun _ kz => XS.aloadN X1.here hx rfl (hb hby d10_7) rfl rfl kz) ?_
  show OG p e below Φ T1 m 8 #[rv s_, iv 0] [(.ref s_)]
  obtain ⟨T2, X2, e2, st2⟩ := getF X1 hx hZ hown (host := "") (Or.inl (ow32 hw)) Via.refl e1 F_v (g := (mkF m 8 #[rv s_, iv 0] [(.ref s_)])) rfl rfl (hb hby d10_8)
  refine OGo.st st2 ?_
  show OG p e below Φ T2 m 11 #[rv s_, iv 0] [(.ref b)]
  refine OGo.st (fun _ kz => XS.iloadN X2.here hx rfl (hb hby d10_11) rfl kz) ?_
  show OG p e below Φ T2 m 12 #[rv s_, iv 0] [(.int 0), (.ref b)]
  obtain ⟨_, T3, L3, X3, hQ3, st3⟩ := own_callSt X2 hx hZ hown (ow54 hw) (ow55 hw) (ow56 hw) (ow57 hw) (by decide) (rgl4_0 l Z a0 hw [] b cb vf c0_ c1_ c2_ c3_ h0 n0 Z0 V_b S_f rvf) e2 (W := 0) (by decide) (by decide) (by decide) (by decide) (pc := 12) (ls := #[rv s_, iv 0]) (stk := [(.int 0), (.ref b)]) (by rw [hml]; rfl) (argsL := [(.ref b), (.int 0)]) (rest := []) (lenOf pd9 rfl) rfl rfl (Nat.le_of_eq rfl) (hb hby d10_12)
  obtain ⟨rfl, Nq3, e3⟩ := hQ3
  have N3 := Fr.app N1 Nq3
  refine OGo.st st3 ?_
  show OG p e below Φ T3 m 15 #[rv s_, iv 0] [(.int ((c0_ &&& (255 : Int32)).toUInt32.toUInt16.toUInt32.toInt32))]
  refine OGo.fin X3 hlk (v := (some (.int ((c0_ &&& (255 : Int32)).toUInt32.toUInt16.toUInt32.toInt32)))) (fun h => by rw [hret] at h; cases h) (by decide) (by decide) (fun fs hr => X3.ireturnOut hx hret (XT.narrow_c _) (by simp) (hb hby d10_15) hr) fun U eU hF => hΦ _ _ _ ?_ hF
  rw [eU, e3]
  show Q_rgh4_0 Z s_ b cb qc vf c0_ c1_ c2_ c3_ h0 n0 _ _ _
  exact ⟨rfl, N3, rfl⟩

theorem ef_rgl4_1 (m : MethodId) (x0 : Addr) (x1 : Int32) : entryFrame m #[(.ref x0), (.int x1)] 2 = mkF m 0 #[.val (.ref x0), .val (.int x1)] [] := by first | (simp [entryFrame, mkF, argsToLocals, Value.category]; done) | rfl
def Q_rgl4_1 (Z : State) (b : Addr) (cb : ClassId) (vf : Value) (c0_ : Int32) (c1_ : Int32) (c2_ : Int32) (c3_ : Int32) (h0 : Heap) (n0 : Nat) (v : Option Value) (h : Heap) (L : List Loc) : Prop := v = some (.int ((c1_ &&& (255 : Int32)).toUInt32.toUInt16.toUInt32.toInt32)) ∧ Fr n0 L ∧ h = h0
set_option maxRecDepth 65536 in
set_option maxHeartbeats 40000000 in
theorem rgl4_1 (l : Launch) (Z : State) (a0 : Array Value) (hw : ∀ d ∈ tables_1, d.before a0 Z = true) (ws : List Jvm.Cond) (b : Addr) (cb : ClassId) (vf : Value) (c0_ : Int32) (c1_ : Int32) (c2_ : Int32) (c3_ : Int32) (h0 : Heap) (n0 : Nat) (Z0 : n0 ≤ h0.size) (V_b : Arv Z h0 b cb .byte (4 : Int32) [(.int c0_), (.int c1_), (.int c2_), (.int c3_)] (.int (0 : Int32))) (S_f : Sta Z h0 "jdk/internal/util/Preconditions" "SIOOBE_FORMATTER" "Ljava/util/function/BiFunction;" vf) (rvf : vf.isRef = true) :
    OCon l Z (⟨"java/lang/StringLatin1", "charAt", "([BI)C"⟩ : MethodName) jdk_43_method_2_code 2 (some .char) ws ({ frames := 2, cells := 0, slots := 0, locals := 27 } : Room) #[(.ref b), (.int (1 : Int32))] h0 (Q_rgl4_1 Z b cb vf c0_ c1_ c2_ c3_ h0 n0) := by
  refine OCon.of (plainFor_of_name pn5) ?_
  intro p e s m below meth c s₁ Φ X0 hx hby hml hown hnm hret hlk hZ e0 hΦ
  have N0 := Fr.nil n0
  refine OGo.st (fun _ kz => castTop (ef_rgl4_1 m b (1 : Int32)) kz) ?_
  show OG p e below Φ s₁ m 0 #[rv b, iv 1] []
  refine OGo.st (fun _ kz => XS.iloadN X0.here hx rfl (hb hby d12_0) rfl kz) ?_
  show OG p e below Φ s₁ m 1 #[rv b, iv 1] [(.int 1)]
  refine OGo.st (fun _ kz => XS.aloadN X0.here hx rfl (hb hby d12_1) rfl rfl kz) ?_
  show OG p e below Φ s₁ m 2 #[rv b, iv 1] [(.ref b), (.int 1)]
  obtain ⟨cl1, Aq1, -, S1, M1, -, -⟩ := id V_b
  refine OGo.st (fun _ kz => X0.arraylength hx (by rw [e0]; exact Aq1.1) (State.isArrayOf_alike hZ.alike Aq1.2.1) (g := (mkF m 2 #[rv b, iv 1] [(.ref b), (.int 1)])) rfl rfl (hb hby d12_2) _ kz) ?_
  rw [len_of S1 M1]
  show OG p e below Φ s₁ m 3 #[rv b, iv 1] [(.int 4), (.int 1)]
  obtain ⟨_, T2, L2, X2, hQ2, st2⟩ := own_callSt X0 hx hZ hown (ow58 hw) (ow59 hw) (ow8 hw) (ow60 hw) (by decide) (rgci l Z a0 hw [] (1 : Int32) (4 : Int32) vf h0 n0 Z0 (by decide) (by decide) S_f rvf) e0 (W := 0) (by decide) (by decide) (by decide) (by decide) (pc := 3) (ls := #[rv b, iv 1]) (stk := [(.int 4), (.int 1)]) (by rw [hml]; rfl) (argsL := [(.int 1), (.int 4)]) (rest := []) (lenOf pd7 rfl) rfl rfl (Nat.le_of_eq rfl) (hb hby d12_3)
  obtain ⟨rfl, Nq2, e2⟩ := hQ2
  have N2 := Fr.app N0 Nq2
  refine OGo.st st2 ?_
  show OG p e below Φ T2 m 6 #[rv b, iv 1] []
  refine OGo.st (fun _ kz => XS.aloadN X2.here hx rfl (hb hby d12_6) rfl rfl kz) ?_
  show OG p e below Φ T2 m 7 #[rv b, iv 1] [(.ref b)]
  refine OGo.st (fun _ kz => XS.iloadN X2.here hx rfl (hb hby d12_7) rfl kz) ?_
  show OG p e below Φ T2 m 8 #[rv b, iv 1] [(.int 1), (.ref b)]
  obtain ⟨cl3, Aq3, -, S3, M3, H3, -⟩ := id V_b
  have in3 : ¬ ((1 : Int32) < 0 ∨ cl3.slots.size ≤ (1 : Int32).toNatClampNeg) := inb_of S3 ⟨by decide, by decide⟩
  have at3 : cl3.slots[(1 : Int32).toNatClampNeg]? = some (.int c1_) := H3.at in3 rfl
  refine OGo.st (fun _ kz => X2.baloadBytes hx (by rw [e2]; exact Aq3.1) (State.isArrayOf_alike hZ.alike Aq3.2.1) Aq3.2.2 in3 at3 (g := (mkF m 8 #[rv b, iv 1] [(.int 1), (.ref b)])) rfl rfl (hb hby d12_8) _ kz) ?_
  show OG p e below Φ T2 m 9 #[rv b, iv 1] [(.int c1_)]
  refine OGo.st (fun _ kz => XS.sipush X2.here hx rfl (hb hby d12_9) kz) ?_
  show OG p e below Φ T2 m 12 #[rv b, iv 1] [(.int 255), (.int c1_)]
  refine OGo.st (fun _ kz => XS.iand X2.here hx rfl (hb hby d12_12) rfl kz) ?_
  show OG p e below Φ T2 m 13 #[rv b, iv 1] [(.int (c1_ &&& (255 : Int32)))]
  refine OGo.st (fun _ kz => XT.i2c X2.here hx rfl (hb hby d12_13) rfl kz) ?_
  show OG p e below Φ T2 m 14 #[rv b, iv 1] [(.int ((c1_ &&& (255 : Int32)).toUInt32.toUInt16.toUInt32.toInt32))]
  refine OGo.fin X2 hlk (v := (some (.int ((c1_ &&& (255 : Int32)).toUInt32.toUInt16.toUInt32.toInt32)))) (fun h => by rw [hret] at h; cases h) (by decide) (by decide) (fun fs hr => X2.ireturnOut hx hret (XT.narrow_c _) (by simp) (hb hby d12_14) hr) fun U eU hF => hΦ _ _ _ ?_ hF
  rw [eU, e2]
  show Q_rgl4_1 Z b cb vf c0_ c1_ c2_ c3_ h0 n0 _ _ _
  exact ⟨rfl, N2, rfl⟩

theorem ef_rgh4_1 (m : MethodId) (x0 : Addr) (x1 : Int32) : entryFrame m #[(.ref x0), (.int x1)] 2 = mkF m 0 #[.val (.ref x0), .val (.int x1)] [] := by first | (simp [entryFrame, mkF, argsToLocals, Value.category]; done) | rfl
def Q_rgh4_1 (Z : State) (s_ : Addr) (b : Addr) (cb : ClassId) (qc : Int32) (vf : Value) (c0_ : Int32) (c1_ : Int32) (c2_ : Int32) (c3_ : Int32) (h0 : Heap) (n0 : Nat) (v : Option Value) (h : Heap) (L : List Loc) : Prop := v = some (.int ((c1_ &&& (255 : Int32)).toUInt32.toUInt16.toUInt32.toInt32)) ∧ Fr n0 L ∧ h = h0
set_option maxRecDepth 65536 in
set_option maxHeartbeats 40000000 in
theorem rgh4_1 (l : Launch) (Z : State) (a0 : Array Value) (hw : ∀ d ∈ tables_1, d.before a0 Z = true) (ws : List Jvm.Cond) (s_ : Addr) (b : Addr) (cb : ClassId) (qc : Int32) (vf : Value) (c0_ : Int32) (c1_ : Int32) (c2_ : Int32) (c3_ : Int32) (h0 : Heap) (n0 : Nat) (Z0 : n0 ≤ h0.size) (E_s : Exa Z h0 s_ "java/lang/String") (F_v : Fld Z h0 s_ "java/lang/String" "value" "[B" (.ref b)) (F_c : Fld Z h0 s_ "java/lang/String" "coder" "B" (.int (0 : Int32))) (V_b : Arv Z h0 b cb .byte (4 : Int32) [(.int c0_), (.int c1_), (.int c2_), (.int c3_)] (.int (0 : Int32))) (S_q : Sta Z h0 "java/lang/String" "COMPACT_STRINGS" "Z" (.int qc)) (hq : ¬ qc = 0) (S_f : Sta Z h0 "jdk/internal/util/Preconditions" "SIOOBE_FORMATTER" "Ljava/util/function/BiFunction;" vf) (rvf : vf.isRef = true) :
    OCon l Z (⟨"java/lang/String", "charAt", "(I)C"⟩ : MethodName) jdk_42_method_56_code 2 (some .char) ws ({ frames := 3, cells := 0, slots := 0, locals := 40 } : Room) #[(.ref s_), (.int (1 : Int32))] h0 (Q_rgh4_1 Z s_ b cb qc vf c0_ c1_ c2_ c3_ h0 n0) := by
  refine OCon.of (plainFor_of_name pn0) ?_
  intro p e s m below meth c s₁ Φ X0 hx hby hml hown hnm hret hlk hZ e0 hΦ
  have N0 := Fr.nil n0
  refine OGo.st (fun _ kz => castTop (ef_rgh4_1 m s_ (1 : Int32)) kz) ?_
  show OG p e below Φ s₁ m 0 #[rv s_, iv 1] []
  refine OGo.st (fun _ kz => XS.aloadN X0.here hx rfl (hb hby d10_0) rfl rfl kz) ?_
  show OG p e below Φ s₁ m 1 #[rv s_, iv 1] [(.ref s_)]
  obtain ⟨_, T1, L1, X1, hQ1, st1⟩ := own_callVi X0 hx hZ hown (ow49 hw) (ow50 hw) (notFace_of_selects (args := #[]) (mvT hZ (ow52 hw))) (ow52 hw) (ow51 hw) (ow8 hw) (ow53 hw) (by decide) (rgis l Z a0 hw [] s_ qc h0 n0 Z0 F_c S_q hq) e0 (W := 0) (by decide) (by decide) (by decide) (by decide) E_s (pc := 1) (ls := #[rv s_, iv 1]) (stk := [(.ref s_)]) (by rw [hml]; rfl) (argsL := []) (rest := []) (lenOf pd8 rfl) rfl rfl (Nat.le_of_eq rfl) (hb hby d10_1)
  obtain ⟨rfl, Nq1, e1⟩ := hQ1
  have N1 := Fr.app N0 Nq1
  refine OGo.st st1 ?_
  show OG p e below Φ T1 m 4 #[rv s_, iv 1] [(.int 1)]
  refine OGo.st (fun _ kz => XS.ifNo X1.here hx rfl (hb hby d10_4) rfl (XT.i0_eq_f (by decide)) kz) ?_
  show OG p e below Φ T1 m 7 #[rv s_, iv 1] []
  refine OGo.st (fun _ kz => XS.aloadN X1.here hx rfl (hb hby d10_7) rfl rfl kz) ?_
  show OG p e below Φ T1 m 8 #[rv s_, iv 1] [(.ref s_)]
  obtain ⟨T2, X2, e2, st2⟩ := getF X1 hx hZ hown (host := "") (Or.inl (ow32 hw)) Via.refl e1 F_v (g := (mkF m 8 #[rv s_, iv 1] [(.ref s_)])) rfl rfl (hb hby d10_8)
  refine OGo.st st2 ?_
  show OG p e below Φ T2 m 11 #[rv s_, iv 1] [(.ref b)]
  refine OGo.st (fun _ kz => XS.iloadN X2.here hx rfl (hb hby d10_11) rfl kz) ?_
  show OG p e below Φ T2 m 12 #[rv s_, iv 1] [(.int 1), (.ref b)]
  obtain ⟨_, T3, L3, X3, hQ3, st3⟩ := own_callSt X2 hx hZ hown (ow54 hw) (ow55 hw) (ow56 hw) (ow57 hw) (by decide) (rgl4_1 l Z a0 hw [] b cb vf c0_ c1_ c2_ c3_ h0 n0 Z0 V_b S_f rvf) e2 (W := 0) (by decide) (by decide) (by decide) (by decide) (pc := 12) (ls := #[rv s_, iv 1]) (stk := [(.int 1), (.ref b)]) (by rw [hml]; rfl) (argsL := [(.ref b), (.int 1)]) (rest := []) (lenOf pd9 rfl) rfl rfl (Nat.le_of_eq rfl) (hb hby d10_12)
  obtain ⟨rfl, Nq3, e3⟩ := hQ3
  have N3 := Fr.app N1 Nq3
  refine OGo.st st3 ?_
  show OG p e below Φ T3 m 15 #[rv s_, iv 1] [(.int ((c1_ &&& (255 : Int32)).toUInt32.toUInt16.toUInt32.toInt32))]
  refine OGo.fin X3 hlk (v := (some (.int ((c1_ &&& (255 : Int32)).toUInt32.toUInt16.toUInt32.toInt32)))) (fun h => by rw [hret] at h; cases h) (by decide) (by decide) (fun fs hr => X3.ireturnOut hx hret (XT.narrow_c _) (by simp) (hb hby d10_15) hr) fun U eU hF => hΦ _ _ _ ?_ hF
  rw [eU, e3]
  show Q_rgh4_1 Z s_ b cb qc vf c0_ c1_ c2_ c3_ h0 n0 _ _ _
  exact ⟨rfl, N3, rfl⟩

theorem ef_rgl4_2 (m : MethodId) (x0 : Addr) (x1 : Int32) : entryFrame m #[(.ref x0), (.int x1)] 2 = mkF m 0 #[.val (.ref x0), .val (.int x1)] [] := by first | (simp [entryFrame, mkF, argsToLocals, Value.category]; done) | rfl
def Q_rgl4_2 (Z : State) (b : Addr) (cb : ClassId) (vf : Value) (c0_ : Int32) (c1_ : Int32) (c2_ : Int32) (c3_ : Int32) (h0 : Heap) (n0 : Nat) (v : Option Value) (h : Heap) (L : List Loc) : Prop := v = some (.int ((c2_ &&& (255 : Int32)).toUInt32.toUInt16.toUInt32.toInt32)) ∧ Fr n0 L ∧ h = h0
set_option maxRecDepth 65536 in
set_option maxHeartbeats 40000000 in
theorem rgl4_2 (l : Launch) (Z : State) (a0 : Array Value) (hw : ∀ d ∈ tables_1, d.before a0 Z = true) (ws : List Jvm.Cond) (b : Addr) (cb : ClassId) (vf : Value) (c0_ : Int32) (c1_ : Int32) (c2_ : Int32) (c3_ : Int32) (h0 : Heap) (n0 : Nat) (Z0 : n0 ≤ h0.size) (V_b : Arv Z h0 b cb .byte (4 : Int32) [(.int c0_), (.int c1_), (.int c2_), (.int c3_)] (.int (0 : Int32))) (S_f : Sta Z h0 "jdk/internal/util/Preconditions" "SIOOBE_FORMATTER" "Ljava/util/function/BiFunction;" vf) (rvf : vf.isRef = true) :
    OCon l Z (⟨"java/lang/StringLatin1", "charAt", "([BI)C"⟩ : MethodName) jdk_43_method_2_code 2 (some .char) ws ({ frames := 2, cells := 0, slots := 0, locals := 27 } : Room) #[(.ref b), (.int (2 : Int32))] h0 (Q_rgl4_2 Z b cb vf c0_ c1_ c2_ c3_ h0 n0) := by
  refine OCon.of (plainFor_of_name pn5) ?_
  intro p e s m below meth c s₁ Φ X0 hx hby hml hown hnm hret hlk hZ e0 hΦ
  have N0 := Fr.nil n0
  refine OGo.st (fun _ kz => castTop (ef_rgl4_2 m b (2 : Int32)) kz) ?_
  show OG p e below Φ s₁ m 0 #[rv b, iv 2] []
  refine OGo.st (fun _ kz => XS.iloadN X0.here hx rfl (hb hby d12_0) rfl kz) ?_
  show OG p e below Φ s₁ m 1 #[rv b, iv 2] [(.int 2)]
  refine OGo.st (fun _ kz => XS.aloadN X0.here hx rfl (hb hby d12_1) rfl rfl kz) ?_
  show OG p e below Φ s₁ m 2 #[rv b, iv 2] [(.ref b), (.int 2)]
  obtain ⟨cl1, Aq1, -, S1, M1, -, -⟩ := id V_b
  refine OGo.st (fun _ kz => X0.arraylength hx (by rw [e0]; exact Aq1.1) (State.isArrayOf_alike hZ.alike Aq1.2.1) (g := (mkF m 2 #[rv b, iv 2] [(.ref b), (.int 2)])) rfl rfl (hb hby d12_2) _ kz) ?_
  rw [len_of S1 M1]
  show OG p e below Φ s₁ m 3 #[rv b, iv 2] [(.int 4), (.int 2)]
  obtain ⟨_, T2, L2, X2, hQ2, st2⟩ := own_callSt X0 hx hZ hown (ow58 hw) (ow59 hw) (ow8 hw) (ow60 hw) (by decide) (rgci l Z a0 hw [] (2 : Int32) (4 : Int32) vf h0 n0 Z0 (by decide) (by decide) S_f rvf) e0 (W := 0) (by decide) (by decide) (by decide) (by decide) (pc := 3) (ls := #[rv b, iv 2]) (stk := [(.int 4), (.int 2)]) (by rw [hml]; rfl) (argsL := [(.int 2), (.int 4)]) (rest := []) (lenOf pd7 rfl) rfl rfl (Nat.le_of_eq rfl) (hb hby d12_3)
  obtain ⟨rfl, Nq2, e2⟩ := hQ2
  have N2 := Fr.app N0 Nq2
  refine OGo.st st2 ?_
  show OG p e below Φ T2 m 6 #[rv b, iv 2] []
  refine OGo.st (fun _ kz => XS.aloadN X2.here hx rfl (hb hby d12_6) rfl rfl kz) ?_
  show OG p e below Φ T2 m 7 #[rv b, iv 2] [(.ref b)]
  refine OGo.st (fun _ kz => XS.iloadN X2.here hx rfl (hb hby d12_7) rfl kz) ?_
  show OG p e below Φ T2 m 8 #[rv b, iv 2] [(.int 2), (.ref b)]
  obtain ⟨cl3, Aq3, -, S3, M3, H3, -⟩ := id V_b
  have in3 : ¬ ((2 : Int32) < 0 ∨ cl3.slots.size ≤ (2 : Int32).toNatClampNeg) := inb_of S3 ⟨by decide, by decide⟩
  have at3 : cl3.slots[(2 : Int32).toNatClampNeg]? = some (.int c2_) := H3.at in3 rfl
  refine OGo.st (fun _ kz => X2.baloadBytes hx (by rw [e2]; exact Aq3.1) (State.isArrayOf_alike hZ.alike Aq3.2.1) Aq3.2.2 in3 at3 (g := (mkF m 8 #[rv b, iv 2] [(.int 2), (.ref b)])) rfl rfl (hb hby d12_8) _ kz) ?_
  show OG p e below Φ T2 m 9 #[rv b, iv 2] [(.int c2_)]
  refine OGo.st (fun _ kz => XS.sipush X2.here hx rfl (hb hby d12_9) kz) ?_
  show OG p e below Φ T2 m 12 #[rv b, iv 2] [(.int 255), (.int c2_)]
  refine OGo.st (fun _ kz => XS.iand X2.here hx rfl (hb hby d12_12) rfl kz) ?_
  show OG p e below Φ T2 m 13 #[rv b, iv 2] [(.int (c2_ &&& (255 : Int32)))]
  refine OGo.st (fun _ kz => XT.i2c X2.here hx rfl (hb hby d12_13) rfl kz) ?_
  show OG p e below Φ T2 m 14 #[rv b, iv 2] [(.int ((c2_ &&& (255 : Int32)).toUInt32.toUInt16.toUInt32.toInt32))]
  refine OGo.fin X2 hlk (v := (some (.int ((c2_ &&& (255 : Int32)).toUInt32.toUInt16.toUInt32.toInt32)))) (fun h => by rw [hret] at h; cases h) (by decide) (by decide) (fun fs hr => X2.ireturnOut hx hret (XT.narrow_c _) (by simp) (hb hby d12_14) hr) fun U eU hF => hΦ _ _ _ ?_ hF
  rw [eU, e2]
  show Q_rgl4_2 Z b cb vf c0_ c1_ c2_ c3_ h0 n0 _ _ _
  exact ⟨rfl, N2, rfl⟩

theorem ef_rgh4_2 (m : MethodId) (x0 : Addr) (x1 : Int32) : entryFrame m #[(.ref x0), (.int x1)] 2 = mkF m 0 #[.val (.ref x0), .val (.int x1)] [] := by first | (simp [entryFrame, mkF, argsToLocals, Value.category]; done) | rfl
def Q_rgh4_2 (Z : State) (s_ : Addr) (b : Addr) (cb : ClassId) (qc : Int32) (vf : Value) (c0_ : Int32) (c1_ : Int32) (c2_ : Int32) (c3_ : Int32) (h0 : Heap) (n0 : Nat) (v : Option Value) (h : Heap) (L : List Loc) : Prop := v = some (.int ((c2_ &&& (255 : Int32)).toUInt32.toUInt16.toUInt32.toInt32)) ∧ Fr n0 L ∧ h = h0
set_option maxRecDepth 65536 in
set_option maxHeartbeats 40000000 in
theorem rgh4_2 (l : Launch) (Z : State) (a0 : Array Value) (hw : ∀ d ∈ tables_1, d.before a0 Z = true) (ws : List Jvm.Cond) (s_ : Addr) (b : Addr) (cb : ClassId) (qc : Int32) (vf : Value) (c0_ : Int32) (c1_ : Int32) (c2_ : Int32) (c3_ : Int32) (h0 : Heap) (n0 : Nat) (Z0 : n0 ≤ h0.size) (E_s : Exa Z h0 s_ "java/lang/String") (F_v : Fld Z h0 s_ "java/lang/String" "value" "[B" (.ref b)) (F_c : Fld Z h0 s_ "java/lang/String" "coder" "B" (.int (0 : Int32))) (V_b : Arv Z h0 b cb .byte (4 : Int32) [(.int c0_), (.int c1_), (.int c2_), (.int c3_)] (.int (0 : Int32))) (S_q : Sta Z h0 "java/lang/String" "COMPACT_STRINGS" "Z" (.int qc)) (hq : ¬ qc = 0) (S_f : Sta Z h0 "jdk/internal/util/Preconditions" "SIOOBE_FORMATTER" "Ljava/util/function/BiFunction;" vf) (rvf : vf.isRef = true) :
    OCon l Z (⟨"java/lang/String", "charAt", "(I)C"⟩ : MethodName) jdk_42_method_56_code 2 (some .char) ws ({ frames := 3, cells := 0, slots := 0, locals := 40 } : Room) #[(.ref s_), (.int (2 : Int32))] h0 (Q_rgh4_2 Z s_ b cb qc vf c0_ c1_ c2_ c3_ h0 n0) := by
  refine OCon.of (plainFor_of_name pn0) ?_
  intro p e s m below meth c s₁ Φ X0 hx hby hml hown hnm hret hlk hZ e0 hΦ
  have N0 := Fr.nil n0
  refine OGo.st (fun _ kz => castTop (ef_rgh4_2 m s_ (2 : Int32)) kz) ?_
  show OG p e below Φ s₁ m 0 #[rv s_, iv 2] []
  refine OGo.st (fun _ kz => XS.aloadN X0.here hx rfl (hb hby d10_0) rfl rfl kz) ?_
  show OG p e below Φ s₁ m 1 #[rv s_, iv 2] [(.ref s_)]
  obtain ⟨_, T1, L1, X1, hQ1, st1⟩ := own_callVi X0 hx hZ hown (ow49 hw) (ow50 hw) (notFace_of_selects (args := #[]) (mvT hZ (ow52 hw))) (ow52 hw) (ow51 hw) (ow8 hw) (ow53 hw) (by decide) (rgis l Z a0 hw [] s_ qc h0 n0 Z0 F_c S_q hq) e0 (W := 0) (by decide) (by decide) (by decide) (by decide) E_s (pc := 1) (ls := #[rv s_, iv 2]) (stk := [(.ref s_)]) (by rw [hml]; rfl) (argsL := []) (rest := []) (lenOf pd8 rfl) rfl rfl (Nat.le_of_eq rfl) (hb hby d10_1)
  obtain ⟨rfl, Nq1, e1⟩ := hQ1
  have N1 := Fr.app N0 Nq1
  refine OGo.st st1 ?_
  show OG p e below Φ T1 m 4 #[rv s_, iv 2] [(.int 1)]
  refine OGo.st (fun _ kz => XS.ifNo X1.here hx rfl (hb hby d10_4) rfl (XT.i0_eq_f (by decide)) kz) ?_
  show OG p e below Φ T1 m 7 #[rv s_, iv 2] []
  refine OGo.st (fun _ kz => XS.aloadN X1.here hx rfl (hb hby d10_7) rfl rfl kz) ?_
  show OG p e below Φ T1 m 8 #[rv s_, iv 2] [(.ref s_)]
  obtain ⟨T2, X2, e2, st2⟩ := getF X1 hx hZ hown (host := "") (Or.inl (ow32 hw)) Via.refl e1 F_v (g := (mkF m 8 #[rv s_, iv 2] [(.ref s_)])) rfl rfl (hb hby d10_8)
  refine OGo.st st2 ?_
  show OG p e below Φ T2 m 11 #[rv s_, iv 2] [(.ref b)]
  refine OGo.st (fun _ kz => XS.iloadN X2.here hx rfl (hb hby d10_11) rfl kz) ?_
  show OG p e below Φ T2 m 12 #[rv s_, iv 2] [(.int 2), (.ref b)]
  obtain ⟨_, T3, L3, X3, hQ3, st3⟩ := own_callSt X2 hx hZ hown (ow54 hw) (ow55 hw) (ow56 hw) (ow57 hw) (by decide) (rgl4_2 l Z a0 hw [] b cb vf c0_ c1_ c2_ c3_ h0 n0 Z0 V_b S_f rvf) e2 (W := 0) (by decide) (by decide) (by decide) (by decide) (pc := 12) (ls := #[rv s_, iv 2]) (stk := [(.int 2), (.ref b)]) (by rw [hml]; rfl) (argsL := [(.ref b), (.int 2)]) (rest := []) (lenOf pd9 rfl) rfl rfl (Nat.le_of_eq rfl) (hb hby d10_12)
  obtain ⟨rfl, Nq3, e3⟩ := hQ3
  have N3 := Fr.app N1 Nq3
  refine OGo.st st3 ?_
  show OG p e below Φ T3 m 15 #[rv s_, iv 2] [(.int ((c2_ &&& (255 : Int32)).toUInt32.toUInt16.toUInt32.toInt32))]
  refine OGo.fin X3 hlk (v := (some (.int ((c2_ &&& (255 : Int32)).toUInt32.toUInt16.toUInt32.toInt32)))) (fun h => by rw [hret] at h; cases h) (by decide) (by decide) (fun fs hr => X3.ireturnOut hx hret (XT.narrow_c _) (by simp) (hb hby d10_15) hr) fun U eU hF => hΦ _ _ _ ?_ hF
  rw [eU, e3]
  show Q_rgh4_2 Z s_ b cb qc vf c0_ c1_ c2_ c3_ h0 n0 _ _ _
  exact ⟨rfl, N3, rfl⟩

theorem ef_rgl4_3 (m : MethodId) (x0 : Addr) (x1 : Int32) : entryFrame m #[(.ref x0), (.int x1)] 2 = mkF m 0 #[.val (.ref x0), .val (.int x1)] [] := by first | (simp [entryFrame, mkF, argsToLocals, Value.category]; done) | rfl
def Q_rgl4_3 (Z : State) (b : Addr) (cb : ClassId) (vf : Value) (c0_ : Int32) (c1_ : Int32) (c2_ : Int32) (c3_ : Int32) (h0 : Heap) (n0 : Nat) (v : Option Value) (h : Heap) (L : List Loc) : Prop := v = some (.int ((c3_ &&& (255 : Int32)).toUInt32.toUInt16.toUInt32.toInt32)) ∧ Fr n0 L ∧ h = h0
set_option maxRecDepth 65536 in
set_option maxHeartbeats 40000000 in
theorem rgl4_3 (l : Launch) (Z : State) (a0 : Array Value) (hw : ∀ d ∈ tables_1, d.before a0 Z = true) (ws : List Jvm.Cond) (b : Addr) (cb : ClassId) (vf : Value) (c0_ : Int32) (c1_ : Int32) (c2_ : Int32) (c3_ : Int32) (h0 : Heap) (n0 : Nat) (Z0 : n0 ≤ h0.size) (V_b : Arv Z h0 b cb .byte (4 : Int32) [(.int c0_), (.int c1_), (.int c2_), (.int c3_)] (.int (0 : Int32))) (S_f : Sta Z h0 "jdk/internal/util/Preconditions" "SIOOBE_FORMATTER" "Ljava/util/function/BiFunction;" vf) (rvf : vf.isRef = true) :
    OCon l Z (⟨"java/lang/StringLatin1", "charAt", "([BI)C"⟩ : MethodName) jdk_43_method_2_code 2 (some .char) ws ({ frames := 2, cells := 0, slots := 0, locals := 27 } : Room) #[(.ref b), (.int (3 : Int32))] h0 (Q_rgl4_3 Z b cb vf c0_ c1_ c2_ c3_ h0 n0) := by
  refine OCon.of (plainFor_of_name pn5) ?_
  intro p e s m below meth c s₁ Φ X0 hx hby hml hown hnm hret hlk hZ e0 hΦ
  have N0 := Fr.nil n0
  refine OGo.st (fun _ kz => castTop (ef_rgl4_3 m b (3 : Int32)) kz) ?_
  show OG p e below Φ s₁ m 0 #[rv b, iv 3] []
  refine OGo.st (fun _ kz => XS.iloadN X0.here hx rfl (hb hby d12_0) rfl kz) ?_
  show OG p e below Φ s₁ m 1 #[rv b, iv 3] [(.int 3)]
  refine OGo.st (fun _ kz => XS.aloadN X0.here hx rfl (hb hby d12_1) rfl rfl kz) ?_
  show OG p e below Φ s₁ m 2 #[rv b, iv 3] [(.ref b), (.int 3)]
  obtain ⟨cl1, Aq1, -, S1, M1, -, -⟩ := id V_b
  refine OGo.st (fun _ kz => X0.arraylength hx (by rw [e0]; exact Aq1.1) (State.isArrayOf_alike hZ.alike Aq1.2.1) (g := (mkF m 2 #[rv b, iv 3] [(.ref b), (.int 3)])) rfl rfl (hb hby d12_2) _ kz) ?_
  rw [len_of S1 M1]
  show OG p e below Φ s₁ m 3 #[rv b, iv 3] [(.int 4), (.int 3)]
  obtain ⟨_, T2, L2, X2, hQ2, st2⟩ := own_callSt X0 hx hZ hown (ow58 hw) (ow59 hw) (ow8 hw) (ow60 hw) (by decide) (rgci l Z a0 hw [] (3 : Int32) (4 : Int32) vf h0 n0 Z0 (by decide) (by decide) S_f rvf) e0 (W := 0) (by decide) (by decide) (by decide) (by decide) (pc := 3) (ls := #[rv b, iv 3]) (stk := [(.int 4), (.int 3)]) (by rw [hml]; rfl) (argsL := [(.int 3), (.int 4)]) (rest := []) (lenOf pd7 rfl) rfl rfl (Nat.le_of_eq rfl) (hb hby d12_3)
  obtain ⟨rfl, Nq2, e2⟩ := hQ2
  have N2 := Fr.app N0 Nq2
  refine OGo.st st2 ?_
  show OG p e below Φ T2 m 6 #[rv b, iv 3] []
  refine OGo.st (fun _ kz => XS.aloadN X2.here hx rfl (hb hby d12_6) rfl rfl kz) ?_
  show OG p e below Φ T2 m 7 #[rv b, iv 3] [(.ref b)]
  refine OGo.st (fun _ kz => XS.iloadN X2.here hx rfl (hb hby d12_7) rfl kz) ?_
  show OG p e below Φ T2 m 8 #[rv b, iv 3] [(.int 3), (.ref b)]
  obtain ⟨cl3, Aq3, -, S3, M3, H3, -⟩ := id V_b
  have in3 : ¬ ((3 : Int32) < 0 ∨ cl3.slots.size ≤ (3 : Int32).toNatClampNeg) := inb_of S3 ⟨by decide, by decide⟩
  have at3 : cl3.slots[(3 : Int32).toNatClampNeg]? = some (.int c3_) := H3.at in3 rfl
  refine OGo.st (fun _ kz => X2.baloadBytes hx (by rw [e2]; exact Aq3.1) (State.isArrayOf_alike hZ.alike Aq3.2.1) Aq3.2.2 in3 at3 (g := (mkF m 8 #[rv b, iv 3] [(.int 3), (.ref b)])) rfl rfl (hb hby d12_8) _ kz) ?_
  show OG p e below Φ T2 m 9 #[rv b, iv 3] [(.int c3_)]
  refine OGo.st (fun _ kz => XS.sipush X2.here hx rfl (hb hby d12_9) kz) ?_
  show OG p e below Φ T2 m 12 #[rv b, iv 3] [(.int 255), (.int c3_)]
  refine OGo.st (fun _ kz => XS.iand X2.here hx rfl (hb hby d12_12) rfl kz) ?_
  show OG p e below Φ T2 m 13 #[rv b, iv 3] [(.int (c3_ &&& (255 : Int32)))]
  refine OGo.st (fun _ kz => XT.i2c X2.here hx rfl (hb hby d12_13) rfl kz) ?_
  show OG p e below Φ T2 m 14 #[rv b, iv 3] [(.int ((c3_ &&& (255 : Int32)).toUInt32.toUInt16.toUInt32.toInt32))]
  refine OGo.fin X2 hlk (v := (some (.int ((c3_ &&& (255 : Int32)).toUInt32.toUInt16.toUInt32.toInt32)))) (fun h => by rw [hret] at h; cases h) (by decide) (by decide) (fun fs hr => X2.ireturnOut hx hret (XT.narrow_c _) (by simp) (hb hby d12_14) hr) fun U eU hF => hΦ _ _ _ ?_ hF
  rw [eU, e2]
  show Q_rgl4_3 Z b cb vf c0_ c1_ c2_ c3_ h0 n0 _ _ _
  exact ⟨rfl, N2, rfl⟩

theorem ef_rgh4_3 (m : MethodId) (x0 : Addr) (x1 : Int32) : entryFrame m #[(.ref x0), (.int x1)] 2 = mkF m 0 #[.val (.ref x0), .val (.int x1)] [] := by first | (simp [entryFrame, mkF, argsToLocals, Value.category]; done) | rfl
def Q_rgh4_3 (Z : State) (s_ : Addr) (b : Addr) (cb : ClassId) (qc : Int32) (vf : Value) (c0_ : Int32) (c1_ : Int32) (c2_ : Int32) (c3_ : Int32) (h0 : Heap) (n0 : Nat) (v : Option Value) (h : Heap) (L : List Loc) : Prop := v = some (.int ((c3_ &&& (255 : Int32)).toUInt32.toUInt16.toUInt32.toInt32)) ∧ Fr n0 L ∧ h = h0
set_option maxRecDepth 65536 in
set_option maxHeartbeats 40000000 in
theorem rgh4_3 (l : Launch) (Z : State) (a0 : Array Value) (hw : ∀ d ∈ tables_1, d.before a0 Z = true) (ws : List Jvm.Cond) (s_ : Addr) (b : Addr) (cb : ClassId) (qc : Int32) (vf : Value) (c0_ : Int32) (c1_ : Int32) (c2_ : Int32) (c3_ : Int32) (h0 : Heap) (n0 : Nat) (Z0 : n0 ≤ h0.size) (E_s : Exa Z h0 s_ "java/lang/String") (F_v : Fld Z h0 s_ "java/lang/String" "value" "[B" (.ref b)) (F_c : Fld Z h0 s_ "java/lang/String" "coder" "B" (.int (0 : Int32))) (V_b : Arv Z h0 b cb .byte (4 : Int32) [(.int c0_), (.int c1_), (.int c2_), (.int c3_)] (.int (0 : Int32))) (S_q : Sta Z h0 "java/lang/String" "COMPACT_STRINGS" "Z" (.int qc)) (hq : ¬ qc = 0) (S_f : Sta Z h0 "jdk/internal/util/Preconditions" "SIOOBE_FORMATTER" "Ljava/util/function/BiFunction;" vf) (rvf : vf.isRef = true) :
    OCon l Z (⟨"java/lang/String", "charAt", "(I)C"⟩ : MethodName) jdk_42_method_56_code 2 (some .char) ws ({ frames := 3, cells := 0, slots := 0, locals := 40 } : Room) #[(.ref s_), (.int (3 : Int32))] h0 (Q_rgh4_3 Z s_ b cb qc vf c0_ c1_ c2_ c3_ h0 n0) := by
  refine OCon.of (plainFor_of_name pn0) ?_
  intro p e s m below meth c s₁ Φ X0 hx hby hml hown hnm hret hlk hZ e0 hΦ
  have N0 := Fr.nil n0
  refine OGo.st (fun _ kz => castTop (ef_rgh4_3 m s_ (3 : Int32)) kz) ?_
  show OG p e below Φ s₁ m 0 #[rv s_, iv 3] []
  refine OGo.st (fun _ kz => XS.aloadN X0.here hx rfl (hb hby d10_0) rfl rfl kz) ?_
  show OG p e below Φ s₁ m 1 #[rv s_, iv 3] [(.ref s_)]
  obtain ⟨_, T1, L1, X1, hQ1, st1⟩ := own_callVi X0 hx hZ hown (ow49 hw) (ow50 hw) (notFace_of_selects (args := #[]) (mvT hZ (ow52 hw))) (ow52 hw) (ow51 hw) (ow8 hw) (ow53 hw) (by decide) (rgis l Z a0 hw [] s_ qc h0 n0 Z0 F_c S_q hq) e0 (W := 0) (by decide) (by decide) (by decide) (by decide) E_s (pc := 1) (ls := #[rv s_, iv 3]) (stk := [(.ref s_)]) (by rw [hml]; rfl) (argsL := []) (rest := []) (lenOf pd8 rfl) rfl rfl (Nat.le_of_eq rfl) (hb hby d10_1)
  obtain ⟨rfl, Nq1, e1⟩ := hQ1
  have N1 := Fr.app N0 Nq1
  refine OGo.st st1 ?_
  show OG p e below Φ T1 m 4 #[rv s_, iv 3] [(.int 1)]
  refine OGo.st (fun _ kz => XS.ifNo X1.here hx rfl (hb hby d10_4) rfl (XT.i0_eq_f (by decide)) kz) ?_
  show OG p e below Φ T1 m 7 #[rv s_, iv 3] []
  refine OGo.st (fun _ kz => XS.aloadN X1.here hx rfl (hb hby d10_7) rfl rfl kz) ?_
  show OG p e below Φ T1 m 8 #[rv s_, iv 3] [(.ref s_)]
  obtain ⟨T2, X2, e2, st2⟩ := getF X1 hx hZ hown (host := "") (Or.inl (ow32 hw)) Via.refl e1 F_v (g := (mkF m 8 #[rv s_, iv 3] [(.ref s_)])) rfl rfl (hb hby d10_8)
  refine OGo.st st2 ?_
  show OG p e below Φ T2 m 11 #[rv s_, iv 3] [(.ref b)]
  refine OGo.st (fun _ kz => XS.iloadN X2.here hx rfl (hb hby d10_11) rfl kz) ?_
  show OG p e below Φ T2 m 12 #[rv s_, iv 3] [(.int 3), (.ref b)]
  obtain ⟨_, T3, L3, X3, hQ3, st3⟩ := own_callSt X2 hx hZ hown (ow54 hw) (ow55 hw) (ow56 hw) (ow57 hw) (by decide) (rgl4_3 l Z a0 hw [] b cb vf c0_ c1_ c2_ c3_ h0 n0 Z0 V_b S_f rvf) e2 (W := 0) (by decide) (by decide) (by decide) (by decide) (pc := 12) (ls := #[rv s_, iv 3]) (stk := [(.int 3), (.ref b)]) (by rw [hml]; rfl) (argsL := [(.ref b), (.int 3)]) (rest := []) (lenOf pd9 rfl) rfl rfl (Nat.le_of_eq rfl) (hb hby d10_12)
  obtain ⟨rfl, Nq3, e3⟩ := hQ3
  have N3 := Fr.app N1 Nq3
  refine OGo.st st3 ?_
  show OG p e below Φ T3 m 15 #[rv s_, iv 3] [(.int ((c3_ &&& (255 : Int32)).toUInt32.toUInt16.toUInt32.toInt32))]
  refine OGo.fin X3 hlk (v := (some (.int ((c3_ &&& (255 : Int32)).toUInt32.toUInt16.toUInt32.toInt32)))) (fun h => by rw [hret] at h; cases h) (by decide) (by decide) (fun fs hr => X3.ireturnOut hx hret (XT.narrow_c _) (by simp) (hb hby d10_15) hr) fun U eU hF => hΦ _ _ _ ?_ hF
  rw [eU, e3]
  show Q_rgh4_3 Z s_ b cb qc vf c0_ c1_ c2_ c3_ h0 n0 _ _ _
  exact ⟨rfl, N3, rfl⟩

theorem d15_0 : decode method_3_code 0 = .ok (.iload_n 2, 1) := by decide +kernel
theorem d15_1 : decode method_3_code 1 = .ok (.sipush 255, 3) := by decide +kernel
theorem d15_4 : decode method_3_code 4 = .ok (.iand, 1) := by decide +kernel
theorem d15_5 : decode method_3_code 5 = .ok (.istore_n 3, 1) := by decide +kernel
theorem d15_6 : decode method_3_code 6 = .ok (.aload_n 0, 1) := by decide +kernel
theorem d15_7 : decode method_3_code 7 = .ok (.iconst 2, 1) := by decide +kernel
theorem d15_8 : decode method_3_code 8 = .ok (.iconst 2, 1) := by decide +kernel
theorem d15_9 : decode method_3_code 9 = .ok (.iload_n 1, 1) := by decide +kernel
theorem d15_10 : decode method_3_code 10 = .ok (.imul, 1) := by decide +kernel
theorem d15_11 : decode method_3_code 11 = .ok (.iadd, 1) := by decide +kernel
theorem d15_12 : decode method_3_code 12 = .ok (.invokevirtual 7, 3) := by decide +kernel
theorem pd10 : parseMethodDescriptor "(I)C" = some ⟨[.int], some .char⟩ := by decide +kernel
theorem d15_15 : decode method_3_code 15 = .ok (.iload_n 3, 1) := by decide +kernel
theorem d15_16 : decode method_3_code 16 = .ok (.bipush 16, 2) := by decide +kernel
theorem d15_18 : decode method_3_code 18 = .ok (.idiv, 1) := by decide +kernel
theorem d15_19 : decode method_3_code 19 = .ok (.invokestatic 13, 3) := by decide +kernel
theorem d15_22 : decode method_3_code 22 = .ok (.if_icmp .ne 26, 3) := by decide +kernel
theorem d15_25 : decode method_3_code 25 = .ok (.aload_n 0, 1) := by decide +kernel
theorem d15_26 : decode method_3_code 26 = .ok (.iconst 3, 1) := by decide +kernel
theorem d15_27 : decode method_3_code 27 = .ok (.iconst 2, 1) := by decide +kernel
theorem d15_28 : decode method_3_code 28 = .ok (.iload_n 1, 1) := by decide +kernel
theorem d15_29 : decode method_3_code 29 = .ok (.imul, 1) := by decide +kernel
theorem d15_30 : decode method_3_code 30 = .ok (.iadd, 1) := by decide +kernel
theorem d15_31 : decode method_3_code 31 = .ok (.invokevirtual 7, 3) := by decide +kernel
theorem d15_34 : decode method_3_code 34 = .ok (.iload_n 3, 1) := by decide +kernel
theorem d15_35 : decode method_3_code 35 = .ok (.bipush 16, 2) := by decide +kernel
theorem d15_37 : decode method_3_code 37 = .ok (.irem, 1) := by decide +kernel
theorem d15_38 : decode method_3_code 38 = .ok (.invokestatic 13, 3) := by decide +kernel
theorem d15_41 : decode method_3_code 41 = .ok (.if_icmp .ne 7, 3) := by decide +kernel
theorem d15_44 : decode method_3_code 44 = .ok (.iconst 1, 1) := by decide +kernel
theorem d15_45 : decode method_3_code 45 = .ok (.goto 4, 3) := by decide +kernel
theorem d15_49 : decode method_3_code 49 = .ok (.ireturn, 1) := by decide +kernel
theorem ef_rpo4_0 (m : MethodId) (x0 : Addr) (x1 : Int32) (x2 : Int32) : entryFrame m #[(.ref x0), (.int x1), (.int x2)] 4 = mkF m 0 #[.val (.ref x0), .val (.int x1), .val (.int x2), .unset] [] := by first | (simp [entryFrame, mkF, argsToLocals, Value.category]; done) | rfl
def Q_rpo4_0 (Z : State) (t_ : Int8) (s_ : Addr) (b : Addr) (cb : ClassId) (qc : Int32) (vf : Value) (c0_ : Int32) (c1_ : Int32) (h0 : Heap) (n0 : Nat) (v : Option Value) (h : Heap) (L : List Loc) : Prop := v = some (.int (1 : Int32)) ∧ Fr n0 L ∧ h = h0
set_option maxRecDepth 65536 in
set_option maxHeartbeats 40000000 in
theorem rpo4_0 (l : Launch) (Z : State) (a0 : Array Value) (hw : ∀ d ∈ tables_1, d.before a0 Z = true) (ws : List Jvm.Cond) (t_ : Int8) (s_ : Addr) (b : Addr) (cb : ClassId) (qc : Int32) (vf : Value) (c0_ : Int32) (c1_ : Int32) (h0 : Heap) (n0 : Nat) (Z0 : n0 ≤ h0.size) (E_s : Exa Z h0 s_ "java/lang/String") (F_v : Fld Z h0 s_ "java/lang/String" "value" "[B" (.ref b)) (F_c : Fld Z h0 s_ "java/lang/String" "coder" "B" (.int (0 : Int32))) (V_b : Arv Z h0 b cb .byte (4 : Int32) [(.int c0_), (.int c1_), (.int (own_hi (nar .byte t_.toInt32))), (.int (own_lo (nar .byte t_.toInt32)))] (.int (0 : Int32))) (S_q : Sta Z h0 "java/lang/String" "COMPACT_STRINGS" "Z" (.int qc)) (hq : ¬ qc = 0) (S_f : Sta Z h0 "jdk/internal/util/Preconditions" "SIOOBE_FORMATTER" "Ljava/util/function/BiFunction;" vf) (rvf : vf.isRef = true) :
    OCon l Z (⟨"com/example/crossweave/crossweave/PostgreSqlTextOfBytesPinLaw", "pairOk", "(Ljava/lang/String;IB)Z"⟩ : MethodName) method_3_code 4 (some .boolean) ws ({ frames := 4, cells := 0, slots := 0, locals := 53 } : Room) #[(.ref s_), (.int (0 : Int32)), (.int t_.toInt32)] h0 (Q_rpo4_0 Z t_ s_ b cb qc vf c0_ c1_ h0 n0) := by
  refine OCon.of (plainFor_of_name pn1) ?_
  intro p e s m below meth c s₁ Φ X0 hx hby hml hown hnm hret hlk hZ e0 hΦ
  have N0 := Fr.nil n0
  refine OGo.st (fun _ kz => castTop (ef_rpo4_0 m s_ (0 : Int32) t_.toInt32) kz) ?_
  show OG p e below Φ s₁ m 0 #[rv s_, iv 0, iv t_.toInt32, .unset] []
  refine OGo.st (fun _ kz => XS.iloadN X0.here hx rfl (hb hby d15_0) rfl kz) ?_
  show OG p e below Φ s₁ m 1 #[rv s_, iv 0, iv t_.toInt32, .unset] [(.int t_.toInt32)]
  refine OGo.st (fun _ kz => XS.sipush X0.here hx rfl (hb hby d15_1) kz) ?_
  show OG p e below Φ s₁ m 4 #[rv s_, iv 0, iv t_.toInt32, .unset] [(.int 255), (.int t_.toInt32)]
  refine OGo.st (fun _ kz => XS.iand X0.here hx rfl (hb hby d15_4) rfl kz) ?_
  show OG p e below Φ s₁ m 5 #[rv s_, iv 0, iv t_.toInt32, .unset] [(.int (t_.toInt32 &&& (255 : Int32)))]
  refine OGo.st (fun _ kz => XS.istoreN X0.here hx rfl (hb hby d15_5) rfl (l' := #[rv s_, iv 0, iv t_.toInt32, iv (t_.toInt32 &&& (255 : Int32))]) rfl kz) ?_
  show OG p e below Φ s₁ m 6 #[rv s_, iv 0, iv t_.toInt32, iv (t_.toInt32 &&& (255 : Int32))] []
  refine OGo.st (fun _ kz => XS.aloadN X0.here hx rfl (hb hby d15_6) rfl rfl kz) ?_
  show OG p e below Φ s₁ m 7 #[rv s_, iv 0, iv t_.toInt32, iv (t_.toInt32 &&& (255 : Int32))] [(.ref s_)]
  refine OGo.st (fun _ kz => XS.iconst X0.here hx rfl (hb hby d15_7) kz) ?_
  show OG p e below Φ s₁ m 8 #[rv s_, iv 0, iv t_.toInt32, iv (t_.toInt32 &&& (255 : Int32))] [(.int 2), (.ref s_)]
  refine OGo.st (fun _ kz => XS.iconst X0.here hx rfl (hb hby d15_8) kz) ?_
  show OG p e below Φ s₁ m 9 #[rv s_, iv 0, iv t_.toInt32, iv (t_.toInt32 &&& (255 : Int32))] [(.int 2), (.int 2), (.ref s_)]
  refine OGo.st (fun _ kz => XS.iloadN X0.here hx rfl (hb hby d15_9) rfl kz) ?_
  show OG p e below Φ s₁ m 10 #[rv s_, iv 0, iv t_.toInt32, iv (t_.toInt32 &&& (255 : Int32))] [(.int 0), (.int 2), (.int 2), (.ref s_)]
  refine OGo.st (fun _ kz => XS.imul X0.here hx rfl (hb hby d15_10) rfl kz) ?_
  show OG p e below Φ s₁ m 11 #[rv s_, iv 0, iv t_.toInt32, iv (t_.toInt32 &&& (255 : Int32))] [(.int 0), (.int 2), (.ref s_)]
  refine OGo.st (fun _ kz => XS.iadd X0.here hx rfl (hb hby d15_11) rfl kz) ?_
  show OG p e below Φ s₁ m 12 #[rv s_, iv 0, iv t_.toInt32, iv (t_.toInt32 &&& (255 : Int32))] [(.int 2), (.ref s_)]
  obtain ⟨_, T1, L1, X1, hQ1, st1⟩ := own_callVi X0 hx hZ hown (ow44 hw) (ow45 hw) (notFace_of_selects (args := #[]) (mvT hZ (ow47 hw))) (ow47 hw) (ow46 hw) (ow8 hw) (ow48 hw) (by decide) (rgh4_2 l Z a0 hw [] s_ b cb qc vf c0_ c1_ (own_hi (nar .byte t_.toInt32)) (own_lo (nar .byte t_.toInt32)) h0 n0 Z0 E_s F_v F_c V_b S_q hq S_f rvf) e0 (W := 0) (by decide) (by decide) (by decide) (by decide) E_s (pc := 12) (ls := #[rv s_, iv 0, iv t_.toInt32, iv (t_.toInt32 &&& (255 : Int32))]) (stk := [(.int 2), (.ref s_)]) (by rw [hml]; rfl) (argsL := [(.int 2)]) (rest := []) (lenOf pd10 rfl) rfl rfl (Nat.le_of_eq rfl) (hb hby d15_12)
  obtain ⟨rfl, Nq1, e1⟩ := hQ1
  have N1 := Fr.app N0 Nq1
  refine OGo.st st1 ?_
  show OG p e below Φ T1 m 15 #[rv s_, iv 0, iv t_.toInt32, iv (t_.toInt32 &&& (255 : Int32))] [(.int (((own_hi (nar .byte t_.toInt32)) &&& (255 : Int32)).toUInt32.toUInt16.toUInt32.toInt32))]
  refine OGo.st (fun _ kz => XS.iloadN X1.here hx rfl (hb hby d15_15) rfl kz) ?_
  show OG p e below Φ T1 m 16 #[rv s_, iv 0, iv t_.toInt32, iv (t_.toInt32 &&& (255 : Int32))] [(.int (t_.toInt32 &&& (255 : Int32))), (.int (((own_hi (nar .byte t_.toInt32)) &&& (255 : Int32)).toUInt32.toUInt16.toUInt32.toInt32))]
  refine OGo.st (fun _ kz => XS.bipush X1.here hx rfl (hb hby d15_16) kz) ?_
  show OG p e below Φ T1 m 18 #[rv s_, iv 0, iv t_.toInt32, iv (t_.toInt32 &&& (255 : Int32))] [(.int 16), (.int (t_.toInt32 &&& (255 : Int32))), (.int (((own_hi (nar .byte t_.toInt32)) &&& (255 : Int32)).toUInt32.toUInt16.toUInt32.toInt32))]
  refine OGo.st (fun _ kz => XS.idiv X1.here hx rfl (hb hby d15_18) rfl (by decide) kz) ?_
  show OG p e below Φ T1 m 19 #[rv s_, iv 0, iv t_.toInt32, iv (t_.toInt32 &&& (255 : Int32))] [(.int ((t_.toInt32 &&& (255 : Int32)) / (16 : Int32))), (.int (((own_hi (nar .byte t_.toInt32)) &&& (255 : Int32)).toUInt32.toUInt16.toUInt32.toInt32))]
  obtain ⟨_, T2, L2, X2, hQ2, st2⟩ := own_callSt X1 hx hZ hown (ow72 hw) (ow73 hw) (ow70 hw) (ow74 hw) (by decide) (rmh l Z a0 hw [] ((t_.toInt32 &&& (255 : Int32)) / (16 : Int32)) h0 n0 Z0 ) e1 (W := 1) (by decide) (by decide) (by decide) (by decide) (pc := 19) (ls := #[rv s_, iv 0, iv t_.toInt32, iv (t_.toInt32 &&& (255 : Int32))]) (stk := [(.int ((t_.toInt32 &&& (255 : Int32)) / (16 : Int32))), (.int (((own_hi (nar .byte t_.toInt32)) &&& (255 : Int32)).toUInt32.toUInt16.toUInt32.toInt32))]) (by rw [hml]; rfl) (argsL := [(.int ((t_.toInt32 &&& (255 : Int32)) / (16 : Int32)))]) (rest := [(.int (((own_hi (nar .byte t_.toInt32)) &&& (255 : Int32)).toUInt32.toUInt16.toUInt32.toInt32))]) (lenOf pd10 rfl) rfl rfl (Nat.le_of_eq rfl) (hb hby d15_19)
  obtain ⟨rfl, Nq2, e2⟩ := hQ2
  have N2 := Fr.app N1 Nq2
  refine OGo.st st2 ?_
  show OG p e below Φ T2 m 22 #[rv s_, iv 0, iv t_.toInt32, iv (t_.toInt32 &&& (255 : Int32))] [(.int (own_hex ((t_.toInt32 &&& (255 : Int32)) / (16 : Int32)))), (.int (((own_hi (nar .byte t_.toInt32)) &&& (255 : Int32)).toUInt32.toUInt16.toUInt32.toInt32))]
  refine OGo.st (fun _ kz => XS.icmpNo X2.here hx rfl (hb hby d15_22) rfl (XT.ii_ne_f (own_pair t_).1) kz) ?_
  show OG p e below Φ T2 m 25 #[rv s_, iv 0, iv t_.toInt32, iv (t_.toInt32 &&& (255 : Int32))] []
  refine OGo.st (fun _ kz => XS.aloadN X2.here hx rfl (hb hby d15_25) rfl rfl kz) ?_
  show OG p e below Φ T2 m 26 #[rv s_, iv 0, iv t_.toInt32, iv (t_.toInt32 &&& (255 : Int32))] [(.ref s_)]
  refine OGo.st (fun _ kz => XS.iconst X2.here hx rfl (hb hby d15_26) kz) ?_
  show OG p e below Φ T2 m 27 #[rv s_, iv 0, iv t_.toInt32, iv (t_.toInt32 &&& (255 : Int32))] [(.int 3), (.ref s_)]
  refine OGo.st (fun _ kz => XS.iconst X2.here hx rfl (hb hby d15_27) kz) ?_
  show OG p e below Φ T2 m 28 #[rv s_, iv 0, iv t_.toInt32, iv (t_.toInt32 &&& (255 : Int32))] [(.int 2), (.int 3), (.ref s_)]
  refine OGo.st (fun _ kz => XS.iloadN X2.here hx rfl (hb hby d15_28) rfl kz) ?_
  show OG p e below Φ T2 m 29 #[rv s_, iv 0, iv t_.toInt32, iv (t_.toInt32 &&& (255 : Int32))] [(.int 0), (.int 2), (.int 3), (.ref s_)]
  refine OGo.st (fun _ kz => XS.imul X2.here hx rfl (hb hby d15_29) rfl kz) ?_
  show OG p e below Φ T2 m 30 #[rv s_, iv 0, iv t_.toInt32, iv (t_.toInt32 &&& (255 : Int32))] [(.int 0), (.int 3), (.ref s_)]
  refine OGo.st (fun _ kz => XS.iadd X2.here hx rfl (hb hby d15_30) rfl kz) ?_
  show OG p e below Φ T2 m 31 #[rv s_, iv 0, iv t_.toInt32, iv (t_.toInt32 &&& (255 : Int32))] [(.int 3), (.ref s_)]
  obtain ⟨_, T3, L3, X3, hQ3, st3⟩ := own_callVi X2 hx hZ hown (ow44 hw) (ow45 hw) (notFace_of_selects (args := #[]) (mvT hZ (ow47 hw))) (ow47 hw) (ow46 hw) (ow8 hw) (ow48 hw) (by decide) (rgh4_3 l Z a0 hw [] s_ b cb qc vf c0_ c1_ (own_hi (nar .byte t_.toInt32)) (own_lo (nar .byte t_.toInt32)) h0 n0 Z0 E_s F_v F_c V_b S_q hq S_f rvf) e2 (W := 0) (by decide) (by decide) (by decide) (by decide) E_s (pc := 31) (ls := #[rv s_, iv 0, iv t_.toInt32, iv (t_.toInt32 &&& (255 : Int32))]) (stk := [(.int 3), (.ref s_)]) (by rw [hml]; rfl) (argsL := [(.int 3)]) (rest := []) (lenOf pd10 rfl) rfl rfl (Nat.le_of_eq rfl) (hb hby d15_31)
  obtain ⟨rfl, Nq3, e3⟩ := hQ3
  have N3 := Fr.app N2 Nq3
  refine OGo.st st3 ?_
  show OG p e below Φ T3 m 34 #[rv s_, iv 0, iv t_.toInt32, iv (t_.toInt32 &&& (255 : Int32))] [(.int (((own_lo (nar .byte t_.toInt32)) &&& (255 : Int32)).toUInt32.toUInt16.toUInt32.toInt32))]
  refine OGo.st (fun _ kz => XS.iloadN X3.here hx rfl (hb hby d15_34) rfl kz) ?_
  show OG p e below Φ T3 m 35 #[rv s_, iv 0, iv t_.toInt32, iv (t_.toInt32 &&& (255 : Int32))] [(.int (t_.toInt32 &&& (255 : Int32))), (.int (((own_lo (nar .byte t_.toInt32)) &&& (255 : Int32)).toUInt32.toUInt16.toUInt32.toInt32))]
  refine OGo.st (fun _ kz => XS.bipush X3.here hx rfl (hb hby d15_35) kz) ?_
  show OG p e below Φ T3 m 37 #[rv s_, iv 0, iv t_.toInt32, iv (t_.toInt32 &&& (255 : Int32))] [(.int 16), (.int (t_.toInt32 &&& (255 : Int32))), (.int (((own_lo (nar .byte t_.toInt32)) &&& (255 : Int32)).toUInt32.toUInt16.toUInt32.toInt32))]
  refine OGo.st (fun _ kz => iremM X3 hx rfl (hb hby d15_37) rfl (by decide) kz) ?_
  show OG p e below Φ T3 m 38 #[rv s_, iv 0, iv t_.toInt32, iv (t_.toInt32 &&& (255 : Int32))] [(.int ((t_.toInt32 &&& (255 : Int32)) % (16 : Int32))), (.int (((own_lo (nar .byte t_.toInt32)) &&& (255 : Int32)).toUInt32.toUInt16.toUInt32.toInt32))]
  obtain ⟨_, T4, L4, X4, hQ4, st4⟩ := own_callSt X3 hx hZ hown (ow72 hw) (ow73 hw) (ow70 hw) (ow74 hw) (by decide) (rmh l Z a0 hw [] ((t_.toInt32 &&& (255 : Int32)) % (16 : Int32)) h0 n0 Z0 ) e3 (W := 1) (by decide) (by decide) (by decide) (by decide) (pc := 38) (ls := #[rv s_, iv 0, iv t_.toInt32, iv (t_.toInt32 &&& (255 : Int32))]) (stk := [(.int ((t_.toInt32 &&& (255 : Int32)) % (16 : Int32))), (.int (((own_lo (nar .byte t_.toInt32)) &&& (255 : Int32)).toUInt32.toUInt16.toUInt32.toInt32))]) (by rw [hml]; rfl) (argsL := [(.int ((t_.toInt32 &&& (255 : Int32)) % (16 : Int32)))]) (rest := [(.int (((own_lo (nar .byte t_.toInt32)) &&& (255 : Int32)).toUInt32.toUInt16.toUInt32.toInt32))]) (lenOf pd10 rfl) rfl rfl (Nat.le_of_eq rfl) (hb hby d15_38)
  obtain ⟨rfl, Nq4, e4⟩ := hQ4
  have N4 := Fr.app N3 Nq4
  refine OGo.st st4 ?_
  show OG p e below Φ T4 m 41 #[rv s_, iv 0, iv t_.toInt32, iv (t_.toInt32 &&& (255 : Int32))] [(.int (own_hex ((t_.toInt32 &&& (255 : Int32)) % (16 : Int32)))), (.int (((own_lo (nar .byte t_.toInt32)) &&& (255 : Int32)).toUInt32.toUInt16.toUInt32.toInt32))]
  refine OGo.st (fun _ kz => XS.icmpNo X4.here hx rfl (hb hby d15_41) rfl (XT.ii_ne_f (own_pair t_).2) kz) ?_
  show OG p e below Φ T4 m 44 #[rv s_, iv 0, iv t_.toInt32, iv (t_.toInt32 &&& (255 : Int32))] []
  refine OGo.st (fun _ kz => XS.iconst X4.here hx rfl (hb hby d15_44) kz) ?_
  show OG p e below Φ T4 m 45 #[rv s_, iv 0, iv t_.toInt32, iv (t_.toInt32 &&& (255 : Int32))] [(.int 1)]
  refine OGo.st (fun _ kz => XS.goto X4.here hx rfl (pc0 := 45) (pc' := 49) rfl (hb hby d15_45) (by decide) (by decide) kz) ?_
  show OG p e below Φ T4 m 49 #[rv s_, iv 0, iv t_.toInt32, iv (t_.toInt32 &&& (255 : Int32))] [(.int 1)]
  refine OGo.fin X4 hlk (v := (some (.int 1))) (fun h => by rw [hret] at h; cases h) (by decide) (by decide) (fun fs hr => X4.ireturnOut hx hret rfl (by simp) (hb hby d15_49) hr) fun U eU hF => hΦ _ _ _ ?_ hF
  rw [eU, e4]
  show Q_rpo4_0 Z t_ s_ b cb qc vf c0_ c1_ h0 n0 _ _ _
  exact ⟨rfl, N4, rfl⟩

theorem ef_rs6c2 (m : MethodId) (x0 : Addr) (x1 : Int32) (x2 : Addr) (x3 : Int32) (x4 : Int32) : entryFrame m #[(.ref x0), (.int x1), (.ref x2), (.int x3), (.int x4)] 7 = mkF m 0 #[.val (.ref x0), .val (.int x1), .val (.ref x2), .val (.int x3), .val (.int x4), .unset, .unset] [] := by first | (simp [entryFrame, mkF, argsToLocals, Value.category]; done) | rfl
def Q_rs6c2 (Z : State) (a : Addr) (ca : ClassId) (b : Addr) (cb : ClassId) (c0_ : Int32) (c1_ : Int32) (c2_ : Int32) (c3_ : Int32) (c4_ : Int32) (c5_ : Int32) (h0 : Heap) (n0 : Nat) (v : Option Value) (h : Heap) (L : List Loc) : Prop := v = some (.int (6 : Int32)) ∧ Fr n0 L ∧ Keep h0 h [b] ∧ Arv Z h b cb .byte (6 : Int32) [(.int (nar .byte (c0_.toInt8.toInt32))), (.int (nar .byte (c1_.toInt8.toInt32))), (.int (nar .byte (c2_.toInt8.toInt32))), (.int (nar .byte (c3_.toInt8.toInt32))), (.int (nar .byte (c4_.toInt8.toInt32))), (.int (nar .byte (c5_.toInt8.toInt32)))] (.int (0 : Int32))
set_option maxRecDepth 65536 in
set_option maxHeartbeats 40000000 in
theorem rs6c2 (l : Launch) (Z : State) (a0 : Array Value) (hw : ∀ d ∈ tables_1, d.before a0 Z = true) (ws : List Jvm.Cond) (a : Addr) (ca : ClassId) (b : Addr) (cb : ClassId) (c0_ : Int32) (c1_ : Int32) (c2_ : Int32) (c3_ : Int32) (c4_ : Int32) (c5_ : Int32) (h0 : Heap) (n0 : Nat) (Z0 : n0 ≤ h0.size) (V_a : Arv Z h0 a ca .char (6 : Int32) [(.int c0_), (.int c1_), (.int c2_), (.int c3_), (.int c4_), (.int c5_)] (.int (0 : Int32))) (V_b : Arv Z h0 b cb .byte (6 : Int32) [(.int (0 : Int32)), (.int (0 : Int32)), (.int (0 : Int32)), (.int (0 : Int32)), (.int (0 : Int32)), (.int (0 : Int32))] (.int (0 : Int32))) (nab : a ≠ b) (g_b : n0 ≤ b) (hl0 : ¬ (255 : Int32) < c0_) (hl1 : ¬ (255 : Int32) < c1_) (hl2 : ¬ (255 : Int32) < c2_) (hl3 : ¬ (255 : Int32) < c3_) (hl4 : ¬ (255 : Int32) < c4_) (hl5 : ¬ (255 : Int32) < c5_) :
    OCon l Z (⟨"java/lang/StringUTF16", "compress", "([CI[BII)I"⟩ : MethodName) jdk_52_method_21_code 7 (some .int) ws ({ frames := 0, cells := 0, slots := 0, locals := 0 } : Room) #[(.ref a), (.int (0 : Int32)), (.ref b), (.int (0 : Int32)), (.int (6 : Int32))] h0 (Q_rs6c2 Z a ca b cb c0_ c1_ c2_ c3_ c4_ c5_ h0 n0) := by
  refine OCon.of (plainFor_of_name pn3) ?_
  intro p e s m below meth c s₁ Φ X0 hx hby hml hown hnm hret hlk hZ e0 hΦ
  have N0 := Fr.nil n0
  refine OGo.st (fun _ kz => castTop (ef_rs6c2 m a (0 : Int32) b (0 : Int32) (6 : Int32)) kz) ?_
  have K0 := Keep.refl h0 [b]
  show OG p e below Φ s₁ m 0 #[rv a, iv 0, rv b, iv 0, iv 6, .unset, .unset] []
  refine OGo.st (fun _ kz => XS.iconst X0.here hx rfl (hb hby d6_0) kz) ?_
  show OG p e below Φ s₁ m 1 #[rv a, iv 0, rv b, iv 0, iv 6, .unset, .unset] [(.int 0)]
  refine OGo.st (fun _ kz => XS.istore X0.here hx rfl (hb hby d6_1) rfl (l' := #[rv a, iv 0, rv b, iv 0, iv 6, iv 0, .unset]) rfl kz) ?_
  show OG p e below Φ s₁ m 3 #[rv a, iv 0, rv b, iv 0, iv 6, iv 0, .unset] []
  refine OGo.st (fun _ kz => XS.iload X0.here hx rfl (hb hby d6_3) rfl kz) ?_
  show OG p e below Φ s₁ m 5 #[rv a, iv 0, rv b, iv 0, iv 6, iv 0, .unset] [(.int 0)]
  refine OGo.st (fun _ kz => XS.iload X0.here hx rfl (hb hby d6_5) rfl kz) ?_
  show OG p e below Φ s₁ m 7 #[rv a, iv 0, rv b, iv 0, iv 6, iv 0, .unset] [(.int 6), (.int 0)]
  refine OGo.st (fun _ kz => XS.icmpNo X0.here hx rfl (hb hby d6_7) rfl (XT.ii_ge_f (by decide)) kz) ?_
  show OG p e below Φ s₁ m 10 #[rv a, iv 0, rv b, iv 0, iv 6, iv 0, .unset] []
  refine OGo.st (fun _ kz => XS.aloadN X0.here hx rfl (hb hby d6_10) rfl rfl kz) ?_
  show OG p e below Φ s₁ m 11 #[rv a, iv 0, rv b, iv 0, iv 6, iv 0, .unset] [(.ref a)]
  refine OGo.st (fun _ kz => XS.iloadN X0.here hx rfl (hb hby d6_11) rfl kz) ?_
  show OG p e below Φ s₁ m 12 #[rv a, iv 0, rv b, iv 0, iv 6, iv 0, .unset] [(.int 0), (.ref a)]
  obtain ⟨cl1, Aq1, -, S1, M1, H1, -⟩ := id V_a
  have in1 : ¬ ((0 : Int32) < 0 ∨ cl1.slots.size ≤ (0 : Int32).toNatClampNeg) := inb_of S1 ⟨by decide, by decide⟩
  have at1 : cl1.slots[(0 : Int32).toNatClampNeg]? = some (.int c0_) := H1.at in1 rfl
  refine OGo.st (fun _ kz => X0.caload hx (by rw [e0]; exact Aq1.1) (State.isArrayOf_alike hZ.alike Aq1.2.1) Aq1.2.2 in1 at1 (g := (mkF m 12 #[rv a, iv 0, rv b, iv 0, iv 6, iv 0, .unset] [(.int 0), (.ref a)])) rfl rfl (hb hby d6_12) _ kz) ?_
  show OG p e below Φ s₁ m 13 #[rv a, iv 0, rv b, iv 0, iv 6, iv 0, .unset] [(.int c0_)]
  refine OGo.st (fun _ kz => XS.istore X0.here hx rfl (hb hby d6_13) rfl (l' := #[rv a, iv 0, rv b, iv 0, iv 6, iv 0, iv c0_]) rfl kz) ?_
  show OG p e below Φ s₁ m 15 #[rv a, iv 0, rv b, iv 0, iv 6, iv 0, iv c0_] []
  refine OGo.st (fun _ kz => XS.iload X0.here hx rfl (hb hby d6_15) rfl kz) ?_
  show OG p e below Φ s₁ m 17 #[rv a, iv 0, rv b, iv 0, iv 6, iv 0, iv c0_] [(.int c0_)]
  refine OGo.st (fun _ kz => XS.sipush X0.here hx rfl (hb hby d6_17) kz) ?_
  show OG p e below Φ s₁ m 20 #[rv a, iv 0, rv b, iv 0, iv 6, iv 0, iv c0_] [(.int 255), (.int c0_)]
  refine OGo.st (fun _ kz => XS.icmpYes X0.here hx rfl (pc0 := 20) (pc' := 26) rfl (hb hby d6_20) rfl (XT.ii_le_t hl0) (by decide) (by decide) kz) ?_
  show OG p e below Φ s₁ m 26 #[rv a, iv 0, rv b, iv 0, iv 6, iv 0, iv c0_] []
  refine OGo.st (fun _ kz => XS.aloadN X0.here hx rfl (hb hby d6_26) rfl rfl kz) ?_
  show OG p e below Φ s₁ m 27 #[rv a, iv 0, rv b, iv 0, iv 6, iv 0, iv c0_] [(.ref b)]
  refine OGo.st (fun _ kz => XS.iloadN X0.here hx rfl (hb hby d6_27) rfl kz) ?_
  show OG p e below Φ s₁ m 28 #[rv a, iv 0, rv b, iv 0, iv 6, iv 0, iv c0_] [(.int 0), (.ref b)]
  refine OGo.st (fun _ kz => XS.iload X0.here hx rfl (hb hby d6_28) rfl kz) ?_
  show OG p e below Φ s₁ m 30 #[rv a, iv 0, rv b, iv 0, iv 6, iv 0, iv c0_] [(.int c0_), (.int 0), (.ref b)]
  refine OGo.st (fun _ kz => XT.i2b X0.here hx rfl (hb hby d6_30) rfl kz) ?_
  show OG p e below Φ s₁ m 31 #[rv a, iv 0, rv b, iv 0, iv 6, iv 0, iv c0_] [(.int (c0_.toInt8.toInt32)), (.int 0), (.ref b)]
  obtain ⟨cl2, Aq2, Cq2, S2, M2, H2, G2⟩ := id V_b
  have in2 : ¬ ((0 : Int32) < 0 ∨ cl2.slots.size ≤ (0 : Int32).toNatClampNeg) := inb_of S2 ⟨by decide, by decide⟩
  obtain ⟨T2, h2, X2, e2, W2, st2⟩ := stB X0 hx hZ e0 Aq2 in2 (g := (mkF m 31 #[rv a, iv 0, rv b, iv 0, iv 6, iv 0, iv c0_] [(.int (c0_.toInt8.toInt32)), (.int 0), (.ref b)])) rfl rfl (hb hby d6_31)
  have W2 : Wr h0 h2 b (0 : Int32).toNatClampNeg (.int (nar .byte (c0_.toInt8.toInt32))) := W2
  have F3 := V_a.other W2 nab
  have V2 : Arv Z h2 b cb .byte (6 : Int32) [(.int (nar .byte (c0_.toInt8.toInt32))), (.int (0 : Int32)), (.int (0 : Int32)), (.int (0 : Int32)), (.int (0 : Int32)), (.int (0 : Int32))] (.int (0 : Int32)) := Arv.set Aq2 Cq2 S2 M2 H2 G2 (fits_nar_byte _) W2 0 (by decide) (by show 0 < 6; decide)
  have K2 := K0.wr W2 (Or.inl (List.mem_of_getElem? (i := 0) rfl))
  have N2 := Fr.snoc X2 N0 g_b
  have Zs2 : n0 ≤ h2.size := by rw [W2.size]; exact Z0
  refine OGo.st st2 ?_
  show OG p e below Φ T2 m 32 #[rv a, iv 0, rv b, iv 0, iv 6, iv 0, iv c0_] []
  refine OGo.st (fun _ kz => XS.iinc X2.here hx rfl (hb hby d6_32) rfl (l' := #[rv a, iv ((0 : Int32) + (1 : Int32)), rv b, iv 0, iv 6, iv 0, iv c0_]) rfl kz) ?_
  show OG p e below Φ T2 m 35 #[rv a, iv 1, rv b, iv 0, iv 6, iv 0, iv c0_] []
  refine OGo.st (fun _ kz => XS.iinc X2.here hx rfl (hb hby d6_35) rfl (l' := #[rv a, iv 1, rv b, iv ((0 : Int32) + (1 : Int32)), iv 6, iv 0, iv c0_]) rfl kz) ?_
  show OG p e below Φ T2 m 38 #[rv a, iv 1, rv b, iv 1, iv 6, iv 0, iv c0_] []
  refine OGo.st (fun _ kz => XS.iinc X2.here hx rfl (hb hby d6_38) rfl (l' := #[rv a, iv 1, rv b, iv 1, iv 6, iv ((0 : Int32) + (1 : Int32)), iv c0_]) rfl kz) ?_
  show OG p e below Φ T2 m 41 #[rv a, iv 1, rv b, iv 1, iv 6, iv 1, iv c0_] []
  refine OGo.st (fun _ kz => XS.goto X2.here hx rfl (pc0 := 41) (pc' := 3) rfl (hb hby d6_41) (by decide) (by decide) kz) ?_
  show OG p e below Φ T2 m 3 #[rv a, iv 1, rv b, iv 1, iv 6, iv 1, iv c0_] []
  refine OGo.st (fun _ kz => XS.iload X2.here hx rfl (hb hby d6_3) rfl kz) ?_
  show OG p e below Φ T2 m 5 #[rv a, iv 1, rv b, iv 1, iv 6, iv 1, iv c0_] [(.int 1)]
  refine OGo.st (fun _ kz => XS.iload X2.here hx rfl (hb hby d6_5) rfl kz) ?_
  show OG p e below Φ T2 m 7 #[rv a, iv 1, rv b, iv 1, iv 6, iv 1, iv c0_] [(.int 6), (.int 1)]
  refine OGo.st (fun _ kz => XS.icmpNo X2.here hx rfl (hb hby d6_7) rfl (XT.ii_ge_f (by decide)) kz) ?_
  show OG p e below Φ T2 m 10 #[rv a, iv 1, rv b, iv 1, iv 6, iv 1, iv c0_] []
  refine OGo.st (fun _ kz => XS.aloadN X2.here hx rfl (hb hby d6_10) rfl rfl kz) ?_
  show OG p e below Φ T2 m 11 #[rv a, iv 1, rv b, iv 1, iv 6, iv 1, iv c0_] [(.ref a)]
  refine OGo.st (fun _ kz => XS.iloadN X2.here hx rfl (hb hby d6_11) rfl kz) ?_
  show OG p e below Φ T2 m 12 #[rv a, iv 1, rv b, iv 1, iv 6, iv 1, iv c0_] [(.int 1), (.ref a)]
  obtain ⟨cl4, Aq4, -, S4, M4, H4, -⟩ := id F3
  have in4 : ¬ ((1 : Int32) < 0 ∨ cl4.slots.size ≤ (1 : Int32).toNatClampNeg) := inb_of S4 ⟨by decide, by decide⟩
  have at4 : cl4.slots[(1 : Int32).toNatClampNeg]? = some (.int c1_) := H4.at in4 rfl
  refine OGo.st (fun _ kz => X2.caload hx (by rw [e2]; exact Aq4.1) (State.isArrayOf_alike hZ.alike Aq4.2.1) Aq4.2.2 in4 at4 (g := (mkF m 12 #[rv a, iv 1, rv b, iv 1, iv 6, iv 1, iv c0_] [(.int 1), (.ref a)])) rfl rfl (hb hby d6_12) _ kz) ?_
  show OG p e below Φ T2 m 13 #[rv a, iv 1, rv b, iv 1, iv 6, iv 1, iv c0_] [(.int c1_)]
  refine OGo.st (fun _ kz => XS.istore X2.here hx rfl (hb hby d6_13) rfl (l' := #[rv a, iv 1, rv b, iv 1, iv 6, iv 1, iv c1_]) rfl kz) ?_
  show OG p e below Φ T2 m 15 #[rv a, iv 1, rv b, iv 1, iv 6, iv 1, iv c1_] []
  refine OGo.st (fun _ kz => XS.iload X2.here hx rfl (hb hby d6_15) rfl kz) ?_
  show OG p e below Φ T2 m 17 #[rv a, iv 1, rv b, iv 1, iv 6, iv 1, iv c1_] [(.int c1_)]
  refine OGo.st (fun _ kz => XS.sipush X2.here hx rfl (hb hby d6_17) kz) ?_
  show OG p e below Φ T2 m 20 #[rv a, iv 1, rv b, iv 1, iv 6, iv 1, iv c1_] [(.int 255), (.int c1_)]
  refine OGo.st (fun _ kz => XS.icmpYes X2.here hx rfl (pc0 := 20) (pc' := 26) rfl (hb hby d6_20) rfl (XT.ii_le_t hl1) (by decide) (by decide) kz) ?_
  show OG p e below Φ T2 m 26 #[rv a, iv 1, rv b, iv 1, iv 6, iv 1, iv c1_] []
  refine OGo.st (fun _ kz => XS.aloadN X2.here hx rfl (hb hby d6_26) rfl rfl kz) ?_
  show OG p e below Φ T2 m 27 #[rv a, iv 1, rv b, iv 1, iv 6, iv 1, iv c1_] [(.ref b)]
  refine OGo.st (fun _ kz => XS.iloadN X2.here hx rfl (hb hby d6_27) rfl kz) ?_
  show OG p e below Φ T2 m 28 #[rv a, iv 1, rv b, iv 1, iv 6, iv 1, iv c1_] [(.int 1), (.ref b)]
  refine OGo.st (fun _ kz => XS.iload X2.here hx rfl (hb hby d6_28) rfl kz) ?_
  show OG p e below Φ T2 m 30 #[rv a, iv 1, rv b, iv 1, iv 6, iv 1, iv c1_] [(.int c1_), (.int 1), (.ref b)]
  refine OGo.st (fun _ kz => XT.i2b X2.here hx rfl (hb hby d6_30) rfl kz) ?_
  show OG p e below Φ T2 m 31 #[rv a, iv 1, rv b, iv 1, iv 6, iv 1, iv c1_] [(.int (c1_.toInt8.toInt32)), (.int 1), (.ref b)]
  obtain ⟨cl5, Aq5, Cq5, S5, M5, H5, G5⟩ := id V2
  have in5 : ¬ ((1 : Int32) < 0 ∨ cl5.slots.size ≤ (1 : Int32).toNatClampNeg) := inb_of S5 ⟨by decide, by decide⟩
  obtain ⟨T5, h5, X5, e5, W5, st5⟩ := stB X2 hx hZ e2 Aq5 in5 (g := (mkF m 31 #[rv a, iv 1, rv b, iv 1, iv 6, iv 1, iv c1_] [(.int (c1_.toInt8.toInt32)), (.int 1), (.ref b)])) rfl rfl (hb hby d6_31)
  have W5 : Wr h2 h5 b (1 : Int32).toNatClampNeg (.int (nar .byte (c1_.toInt8.toInt32))) := W5
  have F6 := F3.other W5 nab
  have V5 : Arv Z h5 b cb .byte (6 : Int32) [(.int (nar .byte (c0_.toInt8.toInt32))), (.int (nar .byte (c1_.toInt8.toInt32))), (.int (0 : Int32)), (.int (0 : Int32)), (.int (0 : Int32)), (.int (0 : Int32))] (.int (0 : Int32)) := Arv.set Aq5 Cq5 S5 M5 H5 G5 (fits_nar_byte _) W5 1 (by decide) (by show 1 < 6; decide)
  have K5 := K2.wr W5 (Or.inl (List.mem_of_getElem? (i := 0) rfl))
  have N5 := Fr.snoc X5 N2 g_b
  have Zs5 : n0 ≤ h5.size := by rw [W5.size]; exact Zs2
  refine OGo.st st5 ?_
  show OG p e below Φ T5 m 32 #[rv a, iv 1, rv b, iv 1, iv 6, iv 1, iv c1_] []
  refine OGo.st (fun _ kz => XS.iinc X5.here hx rfl (hb hby d6_32) rfl (l' := #[rv a, iv ((1 : Int32) + (1 : Int32)), rv b, iv 1, iv 6, iv 1, iv c1_]) rfl kz) ?_
  show OG p e below Φ T5 m 35 #[rv a, iv 2, rv b, iv 1, iv 6, iv 1, iv c1_] []
  refine OGo.st (fun _ kz => XS.iinc X5.here hx rfl (hb hby d6_35) rfl (l' := #[rv a, iv 2, rv b, iv ((1 : Int32) + (1 : Int32)), iv 6, iv 1, iv c1_]) rfl kz) ?_
  show OG p e below Φ T5 m 38 #[rv a, iv 2, rv b, iv 2, iv 6, iv 1, iv c1_] []
  refine OGo.st (fun _ kz => XS.iinc X5.here hx rfl (hb hby d6_38) rfl (l' := #[rv a, iv 2, rv b, iv 2, iv 6, iv ((1 : Int32) + (1 : Int32)), iv c1_]) rfl kz) ?_
  show OG p e below Φ T5 m 41 #[rv a, iv 2, rv b, iv 2, iv 6, iv 2, iv c1_] []
  refine OGo.st (fun _ kz => XS.goto X5.here hx rfl (pc0 := 41) (pc' := 3) rfl (hb hby d6_41) (by decide) (by decide) kz) ?_
  show OG p e below Φ T5 m 3 #[rv a, iv 2, rv b, iv 2, iv 6, iv 2, iv c1_] []
  refine OGo.st (fun _ kz => XS.iload X5.here hx rfl (hb hby d6_3) rfl kz) ?_
  show OG p e below Φ T5 m 5 #[rv a, iv 2, rv b, iv 2, iv 6, iv 2, iv c1_] [(.int 2)]
  refine OGo.st (fun _ kz => XS.iload X5.here hx rfl (hb hby d6_5) rfl kz) ?_
  show OG p e below Φ T5 m 7 #[rv a, iv 2, rv b, iv 2, iv 6, iv 2, iv c1_] [(.int 6), (.int 2)]
  refine OGo.st (fun _ kz => XS.icmpNo X5.here hx rfl (hb hby d6_7) rfl (XT.ii_ge_f (by decide)) kz) ?_
  show OG p e below Φ T5 m 10 #[rv a, iv 2, rv b, iv 2, iv 6, iv 2, iv c1_] []
  refine OGo.st (fun _ kz => XS.aloadN X5.here hx rfl (hb hby d6_10) rfl rfl kz) ?_
  show OG p e below Φ T5 m 11 #[rv a, iv 2, rv b, iv 2, iv 6, iv 2, iv c1_] [(.ref a)]
  refine OGo.st (fun _ kz => XS.iloadN X5.here hx rfl (hb hby d6_11) rfl kz) ?_
  show OG p e below Φ T5 m 12 #[rv a, iv 2, rv b, iv 2, iv 6, iv 2, iv c1_] [(.int 2), (.ref a)]
  obtain ⟨cl7, Aq7, -, S7, M7, H7, -⟩ := id F6
  have in7 : ¬ ((2 : Int32) < 0 ∨ cl7.slots.size ≤ (2 : Int32).toNatClampNeg) := inb_of S7 ⟨by decide, by decide⟩
  have at7 : cl7.slots[(2 : Int32).toNatClampNeg]? = some (.int c2_) := H7.at in7 rfl
  refine OGo.st (fun _ kz => X5.caload hx (by rw [e5]; exact Aq7.1) (State.isArrayOf_alike hZ.alike Aq7.2.1) Aq7.2.2 in7 at7 (g := (mkF m 12 #[rv a, iv 2, rv b, iv 2, iv 6, iv 2, iv c1_] [(.int 2), (.ref a)])) rfl rfl (hb hby d6_12) _ kz) ?_
  show OG p e below Φ T5 m 13 #[rv a, iv 2, rv b, iv 2, iv 6, iv 2, iv c1_] [(.int c2_)]
  refine OGo.st (fun _ kz => XS.istore X5.here hx rfl (hb hby d6_13) rfl (l' := #[rv a, iv 2, rv b, iv 2, iv 6, iv 2, iv c2_]) rfl kz) ?_
  show OG p e below Φ T5 m 15 #[rv a, iv 2, rv b, iv 2, iv 6, iv 2, iv c2_] []
  refine OGo.st (fun _ kz => XS.iload X5.here hx rfl (hb hby d6_15) rfl kz) ?_
  show OG p e below Φ T5 m 17 #[rv a, iv 2, rv b, iv 2, iv 6, iv 2, iv c2_] [(.int c2_)]
  refine OGo.st (fun _ kz => XS.sipush X5.here hx rfl (hb hby d6_17) kz) ?_
  show OG p e below Φ T5 m 20 #[rv a, iv 2, rv b, iv 2, iv 6, iv 2, iv c2_] [(.int 255), (.int c2_)]
  refine OGo.st (fun _ kz => XS.icmpYes X5.here hx rfl (pc0 := 20) (pc' := 26) rfl (hb hby d6_20) rfl (XT.ii_le_t hl2) (by decide) (by decide) kz) ?_
  show OG p e below Φ T5 m 26 #[rv a, iv 2, rv b, iv 2, iv 6, iv 2, iv c2_] []
  refine OGo.st (fun _ kz => XS.aloadN X5.here hx rfl (hb hby d6_26) rfl rfl kz) ?_
  show OG p e below Φ T5 m 27 #[rv a, iv 2, rv b, iv 2, iv 6, iv 2, iv c2_] [(.ref b)]
  refine OGo.st (fun _ kz => XS.iloadN X5.here hx rfl (hb hby d6_27) rfl kz) ?_
  show OG p e below Φ T5 m 28 #[rv a, iv 2, rv b, iv 2, iv 6, iv 2, iv c2_] [(.int 2), (.ref b)]
  refine OGo.st (fun _ kz => XS.iload X5.here hx rfl (hb hby d6_28) rfl kz) ?_
  show OG p e below Φ T5 m 30 #[rv a, iv 2, rv b, iv 2, iv 6, iv 2, iv c2_] [(.int c2_), (.int 2), (.ref b)]
  refine OGo.st (fun _ kz => XT.i2b X5.here hx rfl (hb hby d6_30) rfl kz) ?_
  show OG p e below Φ T5 m 31 #[rv a, iv 2, rv b, iv 2, iv 6, iv 2, iv c2_] [(.int (c2_.toInt8.toInt32)), (.int 2), (.ref b)]
  obtain ⟨cl8, Aq8, Cq8, S8, M8, H8, G8⟩ := id V5
  have in8 : ¬ ((2 : Int32) < 0 ∨ cl8.slots.size ≤ (2 : Int32).toNatClampNeg) := inb_of S8 ⟨by decide, by decide⟩
  obtain ⟨T8, h8, X8, e8, W8, st8⟩ := stB X5 hx hZ e5 Aq8 in8 (g := (mkF m 31 #[rv a, iv 2, rv b, iv 2, iv 6, iv 2, iv c2_] [(.int (c2_.toInt8.toInt32)), (.int 2), (.ref b)])) rfl rfl (hb hby d6_31)
  have W8 : Wr h5 h8 b (2 : Int32).toNatClampNeg (.int (nar .byte (c2_.toInt8.toInt32))) := W8
  have F9 := F6.other W8 nab
  have V8 : Arv Z h8 b cb .byte (6 : Int32) [(.int (nar .byte (c0_.toInt8.toInt32))), (.int (nar .byte (c1_.toInt8.toInt32))), (.int (nar .byte (c2_.toInt8.toInt32))), (.int (0 : Int32)), (.int (0 : Int32)), (.int (0 : Int32))] (.int (0 : Int32)) := Arv.set Aq8 Cq8 S8 M8 H8 G8 (fits_nar_byte _) W8 2 (by decide) (by show 2 < 6; decide)
  have K8 := K5.wr W8 (Or.inl (List.mem_of_getElem? (i := 0) rfl))
  have N8 := Fr.snoc X8 N5 g_b
  have Zs8 : n0 ≤ h8.size := by rw [W8.size]; exact Zs5
  refine OGo.st st8 ?_
  show OG p e below Φ T8 m 32 #[rv a, iv 2, rv b, iv 2, iv 6, iv 2, iv c2_] []
  refine OGo.st (fun _ kz => XS.iinc X8.here hx rfl (hb hby d6_32) rfl (l' := #[rv a, iv ((2 : Int32) + (1 : Int32)), rv b, iv 2, iv 6, iv 2, iv c2_]) rfl kz) ?_
  show OG p e below Φ T8 m 35 #[rv a, iv 3, rv b, iv 2, iv 6, iv 2, iv c2_] []
  refine OGo.st (fun _ kz => XS.iinc X8.here hx rfl (hb hby d6_35) rfl (l' := #[rv a, iv 3, rv b, iv ((2 : Int32) + (1 : Int32)), iv 6, iv 2, iv c2_]) rfl kz) ?_
  show OG p e below Φ T8 m 38 #[rv a, iv 3, rv b, iv 3, iv 6, iv 2, iv c2_] []
  refine OGo.st (fun _ kz => XS.iinc X8.here hx rfl (hb hby d6_38) rfl (l' := #[rv a, iv 3, rv b, iv 3, iv 6, iv ((2 : Int32) + (1 : Int32)), iv c2_]) rfl kz) ?_
  show OG p e below Φ T8 m 41 #[rv a, iv 3, rv b, iv 3, iv 6, iv 3, iv c2_] []
  refine OGo.st (fun _ kz => XS.goto X8.here hx rfl (pc0 := 41) (pc' := 3) rfl (hb hby d6_41) (by decide) (by decide) kz) ?_
  show OG p e below Φ T8 m 3 #[rv a, iv 3, rv b, iv 3, iv 6, iv 3, iv c2_] []
  refine OGo.st (fun _ kz => XS.iload X8.here hx rfl (hb hby d6_3) rfl kz) ?_
  show OG p e below Φ T8 m 5 #[rv a, iv 3, rv b, iv 3, iv 6, iv 3, iv c2_] [(.int 3)]
  refine OGo.st (fun _ kz => XS.iload X8.here hx rfl (hb hby d6_5) rfl kz) ?_
  show OG p e below Φ T8 m 7 #[rv a, iv 3, rv b, iv 3, iv 6, iv 3, iv c2_] [(.int 6), (.int 3)]
  refine OGo.st (fun _ kz => XS.icmpNo X8.here hx rfl (hb hby d6_7) rfl (XT.ii_ge_f (by decide)) kz) ?_
  show OG p e below Φ T8 m 10 #[rv a, iv 3, rv b, iv 3, iv 6, iv 3, iv c2_] []
  refine OGo.st (fun _ kz => XS.aloadN X8.here hx rfl (hb hby d6_10) rfl rfl kz) ?_
  show OG p e below Φ T8 m 11 #[rv a, iv 3, rv b, iv 3, iv 6, iv 3, iv c2_] [(.ref a)]
  refine OGo.st (fun _ kz => XS.iloadN X8.here hx rfl (hb hby d6_11) rfl kz) ?_
  show OG p e below Φ T8 m 12 #[rv a, iv 3, rv b, iv 3, iv 6, iv 3, iv c2_] [(.int 3), (.ref a)]
  obtain ⟨cl10, Aq10, -, S10, M10, H10, -⟩ := id F9
  have in10 : ¬ ((3 : Int32) < 0 ∨ cl10.slots.size ≤ (3 : Int32).toNatClampNeg) := inb_of S10 ⟨by decide, by decide⟩
  have at10 : cl10.slots[(3 : Int32).toNatClampNeg]? = some (.int c3_) := H10.at in10 rfl
  refine OGo.st (fun _ kz => X8.caload hx (by rw [e8]; exact Aq10.1) (State.isArrayOf_alike hZ.alike Aq10.2.1) Aq10.2.2 in10 at10 (g := (mkF m 12 #[rv a, iv 3, rv b, iv 3, iv 6, iv 3, iv c2_] [(.int 3), (.ref a)])) rfl rfl (hb hby d6_12) _ kz) ?_
  show OG p e below Φ T8 m 13 #[rv a, iv 3, rv b, iv 3, iv 6, iv 3, iv c2_] [(.int c3_)]
  refine OGo.st (fun _ kz => XS.istore X8.here hx rfl (hb hby d6_13) rfl (l' := #[rv a, iv 3, rv b, iv 3, iv 6, iv 3, iv c3_]) rfl kz) ?_
  show OG p e below Φ T8 m 15 #[rv a, iv 3, rv b, iv 3, iv 6, iv 3, iv c3_] []
  refine OGo.st (fun _ kz => XS.iload X8.here hx rfl (hb hby d6_15) rfl kz) ?_
  show OG p e below Φ T8 m 17 #[rv a, iv 3, rv b, iv 3, iv 6, iv 3, iv c3_] [(.int c3_)]
  refine OGo.st (fun _ kz => XS.sipush X8.here hx rfl (hb hby d6_17) kz) ?_
  show OG p e below Φ T8 m 20 #[rv a, iv 3, rv b, iv 3, iv 6, iv 3, iv c3_] [(.int 255), (.int c3_)]
  refine OGo.st (fun _ kz => XS.icmpYes X8.here hx rfl (pc0 := 20) (pc' := 26) rfl (hb hby d6_20) rfl (XT.ii_le_t hl3) (by decide) (by decide) kz) ?_
  show OG p e below Φ T8 m 26 #[rv a, iv 3, rv b, iv 3, iv 6, iv 3, iv c3_] []
  refine OGo.st (fun _ kz => XS.aloadN X8.here hx rfl (hb hby d6_26) rfl rfl kz) ?_
  show OG p e below Φ T8 m 27 #[rv a, iv 3, rv b, iv 3, iv 6, iv 3, iv c3_] [(.ref b)]
  refine OGo.st (fun _ kz => XS.iloadN X8.here hx rfl (hb hby d6_27) rfl kz) ?_
  show OG p e below Φ T8 m 28 #[rv a, iv 3, rv b, iv 3, iv 6, iv 3, iv c3_] [(.int 3), (.ref b)]
  refine OGo.st (fun _ kz => XS.iload X8.here hx rfl (hb hby d6_28) rfl kz) ?_
  show OG p e below Φ T8 m 30 #[rv a, iv 3, rv b, iv 3, iv 6, iv 3, iv c3_] [(.int c3_), (.int 3), (.ref b)]
  refine OGo.st (fun _ kz => XT.i2b X8.here hx rfl (hb hby d6_30) rfl kz) ?_
  show OG p e below Φ T8 m 31 #[rv a, iv 3, rv b, iv 3, iv 6, iv 3, iv c3_] [(.int (c3_.toInt8.toInt32)), (.int 3), (.ref b)]
  obtain ⟨cl11, Aq11, Cq11, S11, M11, H11, G11⟩ := id V8
  have in11 : ¬ ((3 : Int32) < 0 ∨ cl11.slots.size ≤ (3 : Int32).toNatClampNeg) := inb_of S11 ⟨by decide, by decide⟩
  obtain ⟨T11, h11, X11, e11, W11, st11⟩ := stB X8 hx hZ e8 Aq11 in11 (g := (mkF m 31 #[rv a, iv 3, rv b, iv 3, iv 6, iv 3, iv c3_] [(.int (c3_.toInt8.toInt32)), (.int 3), (.ref b)])) rfl rfl (hb hby d6_31)
  have W11 : Wr h8 h11 b (3 : Int32).toNatClampNeg (.int (nar .byte (c3_.toInt8.toInt32))) := W11
  have F12 := F9.other W11 nab
  have V11 : Arv Z h11 b cb .byte (6 : Int32) [(.int (nar .byte (c0_.toInt8.toInt32))), (.int (nar .byte (c1_.toInt8.toInt32))), (.int (nar .byte (c2_.toInt8.toInt32))), (.int (nar .byte (c3_.toInt8.toInt32))), (.int (0 : Int32)), (.int (0 : Int32))] (.int (0 : Int32)) := Arv.set Aq11 Cq11 S11 M11 H11 G11 (fits_nar_byte _) W11 3 (by decide) (by show 3 < 6; decide)
  have K11 := K8.wr W11 (Or.inl (List.mem_of_getElem? (i := 0) rfl))
  have N11 := Fr.snoc X11 N8 g_b
  have Zs11 : n0 ≤ h11.size := by rw [W11.size]; exact Zs8
  refine OGo.st st11 ?_
  show OG p e below Φ T11 m 32 #[rv a, iv 3, rv b, iv 3, iv 6, iv 3, iv c3_] []
  refine OGo.st (fun _ kz => XS.iinc X11.here hx rfl (hb hby d6_32) rfl (l' := #[rv a, iv ((3 : Int32) + (1 : Int32)), rv b, iv 3, iv 6, iv 3, iv c3_]) rfl kz) ?_
  show OG p e below Φ T11 m 35 #[rv a, iv 4, rv b, iv 3, iv 6, iv 3, iv c3_] []
  refine OGo.st (fun _ kz => XS.iinc X11.here hx rfl (hb hby d6_35) rfl (l' := #[rv a, iv 4, rv b, iv ((3 : Int32) + (1 : Int32)), iv 6, iv 3, iv c3_]) rfl kz) ?_
  show OG p e below Φ T11 m 38 #[rv a, iv 4, rv b, iv 4, iv 6, iv 3, iv c3_] []
  refine OGo.st (fun _ kz => XS.iinc X11.here hx rfl (hb hby d6_38) rfl (l' := #[rv a, iv 4, rv b, iv 4, iv 6, iv ((3 : Int32) + (1 : Int32)), iv c3_]) rfl kz) ?_
  show OG p e below Φ T11 m 41 #[rv a, iv 4, rv b, iv 4, iv 6, iv 4, iv c3_] []
  refine OGo.st (fun _ kz => XS.goto X11.here hx rfl (pc0 := 41) (pc' := 3) rfl (hb hby d6_41) (by decide) (by decide) kz) ?_
  show OG p e below Φ T11 m 3 #[rv a, iv 4, rv b, iv 4, iv 6, iv 4, iv c3_] []
  refine OGo.st (fun _ kz => XS.iload X11.here hx rfl (hb hby d6_3) rfl kz) ?_
  show OG p e below Φ T11 m 5 #[rv a, iv 4, rv b, iv 4, iv 6, iv 4, iv c3_] [(.int 4)]
  refine OGo.st (fun _ kz => XS.iload X11.here hx rfl (hb hby d6_5) rfl kz) ?_
  show OG p e below Φ T11 m 7 #[rv a, iv 4, rv b, iv 4, iv 6, iv 4, iv c3_] [(.int 6), (.int 4)]
  refine OGo.st (fun _ kz => XS.icmpNo X11.here hx rfl (hb hby d6_7) rfl (XT.ii_ge_f (by decide)) kz) ?_
  show OG p e below Φ T11 m 10 #[rv a, iv 4, rv b, iv 4, iv 6, iv 4, iv c3_] []
  refine OGo.st (fun _ kz => XS.aloadN X11.here hx rfl (hb hby d6_10) rfl rfl kz) ?_
  show OG p e below Φ T11 m 11 #[rv a, iv 4, rv b, iv 4, iv 6, iv 4, iv c3_] [(.ref a)]
  refine OGo.st (fun _ kz => XS.iloadN X11.here hx rfl (hb hby d6_11) rfl kz) ?_
  show OG p e below Φ T11 m 12 #[rv a, iv 4, rv b, iv 4, iv 6, iv 4, iv c3_] [(.int 4), (.ref a)]
  obtain ⟨cl13, Aq13, -, S13, M13, H13, -⟩ := id F12
  have in13 : ¬ ((4 : Int32) < 0 ∨ cl13.slots.size ≤ (4 : Int32).toNatClampNeg) := inb_of S13 ⟨by decide, by decide⟩
  have at13 : cl13.slots[(4 : Int32).toNatClampNeg]? = some (.int c4_) := H13.at in13 rfl
  refine OGo.st (fun _ kz => X11.caload hx (by rw [e11]; exact Aq13.1) (State.isArrayOf_alike hZ.alike Aq13.2.1) Aq13.2.2 in13 at13 (g := (mkF m 12 #[rv a, iv 4, rv b, iv 4, iv 6, iv 4, iv c3_] [(.int 4), (.ref a)])) rfl rfl (hb hby d6_12) _ kz) ?_
  show OG p e below Φ T11 m 13 #[rv a, iv 4, rv b, iv 4, iv 6, iv 4, iv c3_] [(.int c4_)]
  refine OGo.st (fun _ kz => XS.istore X11.here hx rfl (hb hby d6_13) rfl (l' := #[rv a, iv 4, rv b, iv 4, iv 6, iv 4, iv c4_]) rfl kz) ?_
  show OG p e below Φ T11 m 15 #[rv a, iv 4, rv b, iv 4, iv 6, iv 4, iv c4_] []
  refine OGo.st (fun _ kz => XS.iload X11.here hx rfl (hb hby d6_15) rfl kz) ?_
  show OG p e below Φ T11 m 17 #[rv a, iv 4, rv b, iv 4, iv 6, iv 4, iv c4_] [(.int c4_)]
  refine OGo.st (fun _ kz => XS.sipush X11.here hx rfl (hb hby d6_17) kz) ?_
  show OG p e below Φ T11 m 20 #[rv a, iv 4, rv b, iv 4, iv 6, iv 4, iv c4_] [(.int 255), (.int c4_)]
  refine OGo.st (fun _ kz => XS.icmpYes X11.here hx rfl (pc0 := 20) (pc' := 26) rfl (hb hby d6_20) rfl (XT.ii_le_t hl4) (by decide) (by decide) kz) ?_
  show OG p e below Φ T11 m 26 #[rv a, iv 4, rv b, iv 4, iv 6, iv 4, iv c4_] []
  refine OGo.st (fun _ kz => XS.aloadN X11.here hx rfl (hb hby d6_26) rfl rfl kz) ?_
  show OG p e below Φ T11 m 27 #[rv a, iv 4, rv b, iv 4, iv 6, iv 4, iv c4_] [(.ref b)]
  refine OGo.st (fun _ kz => XS.iloadN X11.here hx rfl (hb hby d6_27) rfl kz) ?_
  show OG p e below Φ T11 m 28 #[rv a, iv 4, rv b, iv 4, iv 6, iv 4, iv c4_] [(.int 4), (.ref b)]
  refine OGo.st (fun _ kz => XS.iload X11.here hx rfl (hb hby d6_28) rfl kz) ?_
  show OG p e below Φ T11 m 30 #[rv a, iv 4, rv b, iv 4, iv 6, iv 4, iv c4_] [(.int c4_), (.int 4), (.ref b)]
  refine OGo.st (fun _ kz => XT.i2b X11.here hx rfl (hb hby d6_30) rfl kz) ?_
  show OG p e below Φ T11 m 31 #[rv a, iv 4, rv b, iv 4, iv 6, iv 4, iv c4_] [(.int (c4_.toInt8.toInt32)), (.int 4), (.ref b)]
  obtain ⟨cl14, Aq14, Cq14, S14, M14, H14, G14⟩ := id V11
  have in14 : ¬ ((4 : Int32) < 0 ∨ cl14.slots.size ≤ (4 : Int32).toNatClampNeg) := inb_of S14 ⟨by decide, by decide⟩
  obtain ⟨T14, h14, X14, e14, W14, st14⟩ := stB X11 hx hZ e11 Aq14 in14 (g := (mkF m 31 #[rv a, iv 4, rv b, iv 4, iv 6, iv 4, iv c4_] [(.int (c4_.toInt8.toInt32)), (.int 4), (.ref b)])) rfl rfl (hb hby d6_31)
  have W14 : Wr h11 h14 b (4 : Int32).toNatClampNeg (.int (nar .byte (c4_.toInt8.toInt32))) := W14
  have F15 := F12.other W14 nab
  have V14 : Arv Z h14 b cb .byte (6 : Int32) [(.int (nar .byte (c0_.toInt8.toInt32))), (.int (nar .byte (c1_.toInt8.toInt32))), (.int (nar .byte (c2_.toInt8.toInt32))), (.int (nar .byte (c3_.toInt8.toInt32))), (.int (nar .byte (c4_.toInt8.toInt32))), (.int (0 : Int32))] (.int (0 : Int32)) := Arv.set Aq14 Cq14 S14 M14 H14 G14 (fits_nar_byte _) W14 4 (by decide) (by show 4 < 6; decide)
  have K14 := K11.wr W14 (Or.inl (List.mem_of_getElem? (i := 0) rfl))
  have N14 := Fr.snoc X14 N11 g_b
  have Zs14 : n0 ≤ h14.size := by rw [W14.size]; exact Zs11
  refine OGo.st st14 ?_
  show OG p e below Φ T14 m 32 #[rv a, iv 4, rv b, iv 4, iv 6, iv 4, iv c4_] []
  refine OGo.st (fun _ kz => XS.iinc X14.here hx rfl (hb hby d6_32) rfl (l' := #[rv a, iv ((4 : Int32) + (1 : Int32)), rv b, iv 4, iv 6, iv 4, iv c4_]) rfl kz) ?_
  show OG p e below Φ T14 m 35 #[rv a, iv 5, rv b, iv 4, iv 6, iv 4, iv c4_] []
  refine OGo.st (fun _ kz => XS.iinc X14.here hx rfl (hb hby d6_35) rfl (l' := #[rv a, iv 5, rv b, iv ((4 : Int32) + (1 : Int32)), iv 6, iv 4, iv c4_]) rfl kz) ?_
  show OG p e below Φ T14 m 38 #[rv a, iv 5, rv b, iv 5, iv 6, iv 4, iv c4_] []
  refine OGo.st (fun _ kz => XS.iinc X14.here hx rfl (hb hby d6_38) rfl (l' := #[rv a, iv 5, rv b, iv 5, iv 6, iv ((4 : Int32) + (1 : Int32)), iv c4_]) rfl kz) ?_
  show OG p e below Φ T14 m 41 #[rv a, iv 5, rv b, iv 5, iv 6, iv 5, iv c4_] []
  refine OGo.st (fun _ kz => XS.goto X14.here hx rfl (pc0 := 41) (pc' := 3) rfl (hb hby d6_41) (by decide) (by decide) kz) ?_
  show OG p e below Φ T14 m 3 #[rv a, iv 5, rv b, iv 5, iv 6, iv 5, iv c4_] []
  refine OGo.st (fun _ kz => XS.iload X14.here hx rfl (hb hby d6_3) rfl kz) ?_
  show OG p e below Φ T14 m 5 #[rv a, iv 5, rv b, iv 5, iv 6, iv 5, iv c4_] [(.int 5)]
  refine OGo.st (fun _ kz => XS.iload X14.here hx rfl (hb hby d6_5) rfl kz) ?_
  show OG p e below Φ T14 m 7 #[rv a, iv 5, rv b, iv 5, iv 6, iv 5, iv c4_] [(.int 6), (.int 5)]
  refine OGo.st (fun _ kz => XS.icmpNo X14.here hx rfl (hb hby d6_7) rfl (XT.ii_ge_f (by decide)) kz) ?_
  show OG p e below Φ T14 m 10 #[rv a, iv 5, rv b, iv 5, iv 6, iv 5, iv c4_] []
  refine OGo.st (fun _ kz => XS.aloadN X14.here hx rfl (hb hby d6_10) rfl rfl kz) ?_
  show OG p e below Φ T14 m 11 #[rv a, iv 5, rv b, iv 5, iv 6, iv 5, iv c4_] [(.ref a)]
  refine OGo.st (fun _ kz => XS.iloadN X14.here hx rfl (hb hby d6_11) rfl kz) ?_
  show OG p e below Φ T14 m 12 #[rv a, iv 5, rv b, iv 5, iv 6, iv 5, iv c4_] [(.int 5), (.ref a)]
  obtain ⟨cl16, Aq16, -, S16, M16, H16, -⟩ := id F15
  have in16 : ¬ ((5 : Int32) < 0 ∨ cl16.slots.size ≤ (5 : Int32).toNatClampNeg) := inb_of S16 ⟨by decide, by decide⟩
  have at16 : cl16.slots[(5 : Int32).toNatClampNeg]? = some (.int c5_) := H16.at in16 rfl
  refine OGo.st (fun _ kz => X14.caload hx (by rw [e14]; exact Aq16.1) (State.isArrayOf_alike hZ.alike Aq16.2.1) Aq16.2.2 in16 at16 (g := (mkF m 12 #[rv a, iv 5, rv b, iv 5, iv 6, iv 5, iv c4_] [(.int 5), (.ref a)])) rfl rfl (hb hby d6_12) _ kz) ?_
  show OG p e below Φ T14 m 13 #[rv a, iv 5, rv b, iv 5, iv 6, iv 5, iv c4_] [(.int c5_)]
  refine OGo.st (fun _ kz => XS.istore X14.here hx rfl (hb hby d6_13) rfl (l' := #[rv a, iv 5, rv b, iv 5, iv 6, iv 5, iv c5_]) rfl kz) ?_
  show OG p e below Φ T14 m 15 #[rv a, iv 5, rv b, iv 5, iv 6, iv 5, iv c5_] []
  refine OGo.st (fun _ kz => XS.iload X14.here hx rfl (hb hby d6_15) rfl kz) ?_
  show OG p e below Φ T14 m 17 #[rv a, iv 5, rv b, iv 5, iv 6, iv 5, iv c5_] [(.int c5_)]
  refine OGo.st (fun _ kz => XS.sipush X14.here hx rfl (hb hby d6_17) kz) ?_
  show OG p e below Φ T14 m 20 #[rv a, iv 5, rv b, iv 5, iv 6, iv 5, iv c5_] [(.int 255), (.int c5_)]
  refine OGo.st (fun _ kz => XS.icmpYes X14.here hx rfl (pc0 := 20) (pc' := 26) rfl (hb hby d6_20) rfl (XT.ii_le_t hl5) (by decide) (by decide) kz) ?_
  show OG p e below Φ T14 m 26 #[rv a, iv 5, rv b, iv 5, iv 6, iv 5, iv c5_] []
  refine OGo.st (fun _ kz => XS.aloadN X14.here hx rfl (hb hby d6_26) rfl rfl kz) ?_
  show OG p e below Φ T14 m 27 #[rv a, iv 5, rv b, iv 5, iv 6, iv 5, iv c5_] [(.ref b)]
  refine OGo.st (fun _ kz => XS.iloadN X14.here hx rfl (hb hby d6_27) rfl kz) ?_
  show OG p e below Φ T14 m 28 #[rv a, iv 5, rv b, iv 5, iv 6, iv 5, iv c5_] [(.int 5), (.ref b)]
  refine OGo.st (fun _ kz => XS.iload X14.here hx rfl (hb hby d6_28) rfl kz) ?_
  show OG p e below Φ T14 m 30 #[rv a, iv 5, rv b, iv 5, iv 6, iv 5, iv c5_] [(.int c5_), (.int 5), (.ref b)]
  refine OGo.st (fun _ kz => XT.i2b X14.here hx rfl (hb hby d6_30) rfl kz) ?_
  show OG p e below Φ T14 m 31 #[rv a, iv 5, rv b, iv 5, iv 6, iv 5, iv c5_] [(.int (c5_.toInt8.toInt32)), (.int 5), (.ref b)]
  obtain ⟨cl17, Aq17, Cq17, S17, M17, H17, G17⟩ := id V14
  have in17 : ¬ ((5 : Int32) < 0 ∨ cl17.slots.size ≤ (5 : Int32).toNatClampNeg) := inb_of S17 ⟨by decide, by decide⟩
  obtain ⟨T17, h17, X17, e17, W17, st17⟩ := stB X14 hx hZ e14 Aq17 in17 (g := (mkF m 31 #[rv a, iv 5, rv b, iv 5, iv 6, iv 5, iv c5_] [(.int (c5_.toInt8.toInt32)), (.int 5), (.ref b)])) rfl rfl (hb hby d6_31)
  have W17 : Wr h14 h17 b (5 : Int32).toNatClampNeg (.int (nar .byte (c5_.toInt8.toInt32))) := W17
  have F18 := F15.other W17 nab
  have V17 : Arv Z h17 b cb .byte (6 : Int32) [(.int (nar .byte (c0_.toInt8.toInt32))), (.int (nar .byte (c1_.toInt8.toInt32))), (.int (nar .byte (c2_.toInt8.toInt32))), (.int (nar .byte (c3_.toInt8.toInt32))), (.int (nar .byte (c4_.toInt8.toInt32))), (.int (nar .byte (c5_.toInt8.toInt32)))] (.int (0 : Int32)) := Arv.set Aq17 Cq17 S17 M17 H17 G17 (fits_nar_byte _) W17 5 (by decide) (by show 5 < 6; decide)
  have K17 := K14.wr W17 (Or.inl (List.mem_of_getElem? (i := 0) rfl))
  have N17 := Fr.snoc X17 N14 g_b
  have Zs17 : n0 ≤ h17.size := by rw [W17.size]; exact Zs14
  refine OGo.st st17 ?_
  show OG p e below Φ T17 m 32 #[rv a, iv 5, rv b, iv 5, iv 6, iv 5, iv c5_] []
  refine OGo.st (fun _ kz => XS.iinc X17.here hx rfl (hb hby d6_32) rfl (l' := #[rv a, iv ((5 : Int32) + (1 : Int32)), rv b, iv 5, iv 6, iv 5, iv c5_]) rfl kz) ?_
  show OG p e below Φ T17 m 35 #[rv a, iv 6, rv b, iv 5, iv 6, iv 5, iv c5_] []
  refine OGo.st (fun _ kz => XS.iinc X17.here hx rfl (hb hby d6_35) rfl (l' := #[rv a, iv 6, rv b, iv ((5 : Int32) + (1 : Int32)), iv 6, iv 5, iv c5_]) rfl kz) ?_
  show OG p e below Φ T17 m 38 #[rv a, iv 6, rv b, iv 6, iv 6, iv 5, iv c5_] []
  refine OGo.st (fun _ kz => XS.iinc X17.here hx rfl (hb hby d6_38) rfl (l' := #[rv a, iv 6, rv b, iv 6, iv 6, iv ((5 : Int32) + (1 : Int32)), iv c5_]) rfl kz) ?_
  show OG p e below Φ T17 m 41 #[rv a, iv 6, rv b, iv 6, iv 6, iv 6, iv c5_] []
  refine OGo.st (fun _ kz => XS.goto X17.here hx rfl (pc0 := 41) (pc' := 3) rfl (hb hby d6_41) (by decide) (by decide) kz) ?_
  show OG p e below Φ T17 m 3 #[rv a, iv 6, rv b, iv 6, iv 6, iv 6, iv c5_] []
  refine OGo.st (fun _ kz => XS.iload X17.here hx rfl (hb hby d6_3) rfl kz) ?_
  show OG p e below Φ T17 m 5 #[rv a, iv 6, rv b, iv 6, iv 6, iv 6, iv c5_] [(.int 6)]
  refine OGo.st (fun _ kz => XS.iload X17.here hx rfl (hb hby d6_5) rfl kz) ?_
  show OG p e below Φ T17 m 7 #[rv a, iv 6, rv b, iv 6, iv 6, iv 6, iv c5_] [(.int 6), (.int 6)]
  refine OGo.st (fun _ kz => XS.icmpYes X17.here hx rfl (pc0 := 7) (pc' := 44) rfl (hb hby d6_7) rfl (XT.ii_ge_t (by decide)) (by decide) (by decide) kz) ?_
  show OG p e below Φ T17 m 44 #[rv a, iv 6, rv b, iv 6, iv 6, iv 6, iv c5_] []
  refine OGo.st (fun _ kz => XS.iload X17.here hx rfl (hb hby d6_44) rfl kz) ?_
  show OG p e below Φ T17 m 46 #[rv a, iv 6, rv b, iv 6, iv 6, iv 6, iv c5_] [(.int 6)]
  refine OGo.fin X17 hlk (v := (some (.int 6))) (fun h => by rw [hret] at h; cases h) (by decide) (by decide) (fun fs hr => X17.ireturnOut hx hret rfl (by simp) (hb hby d6_46) hr) fun U eU hF => hΦ _ _ _ ?_ hF
  rw [eU, e17]
  show Q_rs6c2 Z a ca b cb c0_ c1_ c2_ c3_ c4_ c5_ h0 n0 _ _ _
  exact ⟨rfl, N17, K17, V17⟩

theorem ef_rs6c3 (m : MethodId) (x0 : Addr) (x1 : Int32) (x2 : Int32) : entryFrame m #[(.ref x0), (.int x1), (.int x2)] 6 = mkF m 0 #[.val (.ref x0), .val (.int x1), .val (.int x2), .unset, .unset, .unset] [] := by first | (simp [entryFrame, mkF, argsToLocals, Value.category]; done) | rfl
def Q_rs6c3 (Z : State) (a : Addr) (ca : ClassId) (c0_ : Int32) (c1_ : Int32) (c2_ : Int32) (c3_ : Int32) (c4_ : Int32) (c5_ : Int32) (h0 : Heap) (n0 : Nat) (v : Option Value) (h : Heap) (L : List Loc) : Prop := ∃ b cb, v = some (.ref b) ∧ Fr n0 L ∧ Keep h0 h [] ∧ Arv Z h b cb .byte (6 : Int32) [(.int (nar .byte (c0_.toInt8.toInt32))), (.int (nar .byte (c1_.toInt8.toInt32))), (.int (nar .byte (c2_.toInt8.toInt32))), (.int (nar .byte (c3_.toInt8.toInt32))), (.int (nar .byte (c4_.toInt8.toInt32))), (.int (nar .byte (c5_.toInt8.toInt32)))] (.int (0 : Int32)) ∧ h0.size ≤ b
set_option maxRecDepth 65536 in
set_option maxHeartbeats 40000000 in
theorem rs6c3 (l : Launch) (Z : State) (a0 : Array Value) (hw : ∀ d ∈ tables_1, d.before a0 Z = true) (ws : List Jvm.Cond) (a : Addr) (ca : ClassId) (c0_ : Int32) (c1_ : Int32) (c2_ : Int32) (c3_ : Int32) (c4_ : Int32) (c5_ : Int32) (h0 : Heap) (n0 : Nat) (Z0 : n0 ≤ h0.size) (V_a : Arv Z h0 a ca .char (6 : Int32) [(.int c0_), (.int c1_), (.int c2_), (.int c3_), (.int c4_), (.int c5_)] (.int (0 : Int32))) (hl0 : ¬ (255 : Int32) < c0_) (hl1 : ¬ (255 : Int32) < c1_) (hl2 : ¬ (255 : Int32) < c2_) (hl3 : ¬ (255 : Int32) < c3_) (hl4 : ¬ (255 : Int32) < c4_) (hl5 : ¬ (255 : Int32) < c5_) :
    OCon l Z (⟨"java/lang/StringUTF16", "compress", "([CII)[B"⟩ : MethodName) jdk_52_method_16_code 6 (some (.array .byte)) ws ({ frames := 1, cells := 1, slots := 6, locals := 18 } : Room) #[(.ref a), (.int (0 : Int32)), (.int (6 : Int32))] h0 (Q_rs6c3 Z a ca c0_ c1_ c2_ c3_ c4_ c5_ h0 n0) := by
  refine OCon.of (plainFor_of_name pn3) ?_
  intro p e s m below meth c s₁ Φ X0 hx hby hml hown hnm hret hlk hZ e0 hΦ
  have N0 := Fr.nil n0
  refine OGo.st (fun _ kz => castTop (ef_rs6c3 m a (0 : Int32) (6 : Int32)) kz) ?_
  have K0 := Keep.refl h0 []
  show OG p e below Φ s₁ m 0 #[rv a, iv 0, iv 6, .unset, .unset, .unset] []
  refine OGo.st (fun _ kz => XS.iloadN X0.here hx rfl (hb hby d5_0) rfl kz) ?_
  show OG p e below Φ s₁ m 1 #[rv a, iv 0, iv 6, .unset, .unset, .unset] [(.int 6)]
  obtain ⟨T1, h1, c1, X1, e1, E1, Ar1, st1⟩ := newP (aty := .byte) X0 hx hZ (ow0 hw) e0 (g := (mkF m 1 #[rv a, iv 0, iv 6, .unset, .unset, .unset] [(.int 6)])) rfl (hb hby d5_1) rfl (by decide) (cap := 6) (by decide) (by decide) (by decide) (by decide)
  obtain ⟨b1, g1⟩ : ∃ z, z = h0.size := ⟨_, rfl⟩
  rw [← g1] at Ar1 st1
  have ne1_a : a ≠ b1 := by rw [g1]; exact Nat.ne_of_lt V_a.lt
  have F2 := V_a.ext E1
  have gb1 : n0 ≤ b1 := Nat.le_trans Z0 (Nat.le_of_eq g1.symm)
  have sz1 : h0.size ≤ b1 := Nat.le_trans K0.1 (Nat.le_of_eq g1.symm)
  have K1 := K0.ext E1
  have Zs1 : n0 ≤ h1.size := Nat.le_trans Z0 E1.1
  have V1 : Arv Z h1 b1 c1 .byte (6 : Int32) [(.int (0 : Int32)), (.int (0 : Int32)), (.int (0 : Int32)), (.int (0 : Int32)), (.int (0 : Int32)), (.int (0 : Int32))] (.int (0 : Int32)) := (Arv.new Ar1 (by decide)).pad (pad_rep [] _ 6)
  refine OGo.st st1 ?_
  show OG p e below Φ T1 m 3 #[rv a, iv 0, iv 6, .unset, .unset, .unset] [(.ref b1)]
  refine OGo.st (fun _ kz => XS.astoreN X1.here hx rfl (hb hby d5_3) rfl rfl (l' := #[rv a, iv 0, iv 6, rv b1, .unset, .unset]) rfl kz) ?_
  show OG p e below Φ T1 m 4 #[rv a, iv 0, iv 6, rv b1, .unset, .unset] []
  refine OGo.st (fun _ kz => XS.aloadN X1.here hx rfl (hb hby d5_4) rfl rfl kz) ?_
  show OG p e below Φ T1 m 5 #[rv a, iv 0, iv 6, rv b1, .unset, .unset] [(.ref a)]
  refine OGo.st (fun _ kz => XS.iloadN X1.here hx rfl (hb hby d5_5) rfl kz) ?_
  show OG p e below Φ T1 m 6 #[rv a, iv 0, iv 6, rv b1, .unset, .unset] [(.int 0), (.ref a)]
  refine OGo.st (fun _ kz => XS.aloadN X1.here hx rfl (hb hby d5_6) rfl rfl kz) ?_
  show OG p e below Φ T1 m 7 #[rv a, iv 0, iv 6, rv b1, .unset, .unset] [(.ref b1), (.int 0), (.ref a)]
  refine OGo.st (fun _ kz => XS.iconst X1.here hx rfl (hb hby d5_7) kz) ?_
  show OG p e below Φ T1 m 8 #[rv a, iv 0, iv 6, rv b1, .unset, .unset] [(.int 0), (.ref b1), (.int 0), (.ref a)]
  refine OGo.st (fun _ kz => XS.iloadN X1.here hx rfl (hb hby d5_8) rfl kz) ?_
  show OG p e below Φ T1 m 9 #[rv a, iv 0, iv 6, rv b1, .unset, .unset] [(.int 6), (.int 0), (.ref b1), (.int 0), (.ref a)]
  obtain ⟨_, T3, L3, X3, hQ3, st3⟩ := own_callSt X1 hx hZ hown (ow24 hw) (ow25 hw) (ow22 hw) (ow26 hw) (by decide) (rs6c2 l Z a0 hw [] a ca b1 c1 c0_ c1_ c2_ c3_ c4_ c5_ h1 n0 Zs1 F2 V1 ne1_a gb1 hl0 hl1 hl2 hl3 hl4 hl5) e1 (W := 0) (by decide) (by decide) (by decide) (by decide) (pc := 9) (ls := #[rv a, iv 0, iv 6, rv b1, .unset, .unset]) (stk := [(.int 6), (.int 0), (.ref b1), (.int 0), (.ref a)]) (by rw [hml]; rfl) (argsL := [(.ref a), (.int 0), (.ref b1), (.int 0), (.int 6)]) (rest := []) (lenOf pd1 rfl) rfl rfl (Nat.le_of_eq rfl) (hb hby d5_9)
  obtain ⟨rfl, Nq3, Kq3, Vq3⟩ := hQ3
  have N3 := Fr.app N0 Nq3
  have Zs3 : n0 ≤ T3.heap.size := Nat.le_trans Zs1 Kq3.1
  have F4 := F2.keep Kq3 (ninS ne1_a nin0)
  have K3 := K1.trans Kq3 (allS (Or.inr sz1) all0)
  refine OGo.st st3 ?_
  show OG p e below Φ T3 m 12 #[rv a, iv 0, iv 6, rv b1, .unset, .unset] [(.int 6)]
  refine OGo.st (fun _ kz => XS.istore X3.here hx rfl (hb hby d5_12) rfl (l' := #[rv a, iv 0, iv 6, rv b1, iv 6, .unset]) rfl kz) ?_
  show OG p e below Φ T3 m 14 #[rv a, iv 0, iv 6, rv b1, iv 6, .unset] []
  refine OGo.st (fun _ kz => XS.iload X3.here hx rfl (hb hby d5_14) rfl kz) ?_
  show OG p e below Φ T3 m 16 #[rv a, iv 0, iv 6, rv b1, iv 6, .unset] [(.int 6)]
  refine OGo.st (fun _ kz => XS.iloadN X3.here hx rfl (hb hby d5_16) rfl kz) ?_
  show OG p e below Φ T3 m 17 #[rv a, iv 0, iv 6, rv b1, iv 6, .unset] [(.int 6), (.int 6)]
  refine OGo.st (fun _ kz => XS.icmpYes X3.here hx rfl (pc0 := 17) (pc' := 57) rfl (hb hby d5_17) rfl (XT.ii_eq_t (by decide)) (by decide) (by decide) kz) ?_
  show OG p e below Φ T3 m 57 #[rv a, iv 0, iv 6, rv b1, iv 6, .unset] []
  refine OGo.st (fun _ kz => XS.aloadN X3.here hx rfl (hb hby d5_57) rfl rfl kz) ?_
  show OG p e below Φ T3 m 58 #[rv a, iv 0, iv 6, rv b1, iv 6, .unset] [(.ref b1)]
  refine OGo.fin X3 hlk (v := (some (.ref b1))) (fun h => by rw [hret] at h; cases h) (by decide) (by decide) (fun fs hr => X3.areturnOut hx rfl hret rfl (hb hby d5_58) hr) fun U eU hF => hΦ _ _ _ ?_ hF
  rw [eU]
  show Q_rs6c3 Z a ca c0_ c1_ c2_ c3_ c4_ c5_ h0 n0 _ _ _
  exact ⟨_, _, rfl, N3, K3, Vq3, sz1⟩

theorem ef_rs6cf (m : MethodId) (x0 : Addr) (x1 : Int32) : entryFrame m #[(.ref x0), (.int x1)] 2 = mkF m 0 #[.val (.ref x0), .val (.int x1)] [] := by first | (simp [entryFrame, mkF, argsToLocals, Value.category]; done) | rfl
def Q_rs6cf (Z : State) (b : Addr) (cb : ClassId) (c0_ : Int32) (c1_ : Int32) (c2_ : Int32) (c3_ : Int32) (c4_ : Int32) (c5_ : Int32) (h0 : Heap) (n0 : Nat) (v : Option Value) (h : Heap) (L : List Loc) : Prop := v = some (.int (0 : Int32)) ∧ Fr n0 L ∧ h = h0
set_option maxRecDepth 65536 in
set_option maxHeartbeats 40000000 in
theorem rs6cf (l : Launch) (Z : State) (a0 : Array Value) (hw : ∀ d ∈ tables_1, d.before a0 Z = true) (ws : List Jvm.Cond) (b : Addr) (cb : ClassId) (c0_ : Int32) (c1_ : Int32) (c2_ : Int32) (c3_ : Int32) (c4_ : Int32) (c5_ : Int32) (h0 : Heap) (n0 : Nat) (Z0 : n0 ≤ h0.size) (V_b : Arv Z h0 b cb .byte (6 : Int32) [(.int (nar .byte (c0_.toInt8.toInt32))), (.int (nar .byte (c1_.toInt8.toInt32))), (.int (nar .byte (c2_.toInt8.toInt32))), (.int (nar .byte (c3_.toInt8.toInt32))), (.int (nar .byte (c4_.toInt8.toInt32))), (.int (nar .byte (c5_.toInt8.toInt32)))] (.int (0 : Int32))) :
    OCon l Z (⟨"java/lang/StringUTF16", "coderFromArrayLen", "([BI)B"⟩ : MethodName) jdk_52_method_15_code 2 (some .byte) ws ({ frames := 0, cells := 0, slots := 0, locals := 0 } : Room) #[(.ref b), (.int (6 : Int32))] h0 (Q_rs6cf Z b cb c0_ c1_ c2_ c3_ c4_ c5_ h0 n0) := by
  refine OCon.of (plainFor_of_name pn3) ?_
  intro p e s m below meth c s₁ Φ X0 hx hby hml hown hnm hret hlk hZ e0 hΦ
  have N0 := Fr.nil n0
  refine OGo.st (fun _ kz => castTop (ef_rs6cf m b (6 : Int32)) kz) ?_
  show OG p e below Φ s₁ m 0 #[rv b, iv 6] []
  refine OGo.st (fun _ kz => XS.iloadN X0.here hx rfl (hb hby d7_0) rfl kz) ?_
  show OG p e below Φ s₁ m 1 #[rv b, iv 6] [(.int 6)]
  refine OGo.st (fun _ kz => XS.aloadN X0.here hx rfl (hb hby d7_1) rfl rfl kz) ?_
  show OG p e below Φ s₁ m 2 #[rv b, iv 6] [(.ref b), (.int 6)]
  obtain ⟨cl1, Aq1, -, S1, M1, -, -⟩ := id V_b
  refine OGo.st (fun _ kz => X0.arraylength hx (by rw [e0]; exact Aq1.1) (State.isArrayOf_alike hZ.alike Aq1.2.1) (g := (mkF m 2 #[rv b, iv 6] [(.ref b), (.int 6)])) rfl rfl (hb hby d7_2) _ kz) ?_
  rw [len_of S1 M1]
  show OG p e below Φ s₁ m 3 #[rv b, iv 6] [(.int 6), (.int 6)]
  refine OGo.st (fun _ kz => XS.isub X0.here hx rfl (hb hby d7_3) rfl kz) ?_
  show OG p e below Φ s₁ m 4 #[rv b, iv 6] [(.int 0)]
  refine OGo.st (fun _ kz => XS.bipush X0.here hx rfl (hb hby d7_4) kz) ?_
  show OG p e below Φ s₁ m 6 #[rv b, iv 6] [(.int 31), (.int 0)]
  refine OGo.st (fun _ kz => XT.iushr X0.here hx rfl (hb hby d7_6) rfl kz) ?_
  show OG p e below Φ s₁ m 7 #[rv b, iv 6] [(.int 0)]
  refine OGo.st (fun _ kz => XT.i2b X0.here hx rfl (hb hby d7_7) rfl kz) ?_
  show OG p e below Φ s₁ m 8 #[rv b, iv 6] [(.int 0)]
  refine OGo.fin X0 hlk (v := (some (.int 0))) (fun h => by rw [hret] at h; cases h) (by decide) (by decide) (fun fs hr => X0.ireturnOut hx hret rfl (by simp) (hb hby d7_8) hr) fun U eU hF => hΦ _ _ _ ?_ hF
  rw [eU, e0]
  show Q_rs6cf Z b cb c0_ c1_ c2_ c3_ c4_ c5_ h0 n0 _ _ _
  exact ⟨rfl, N0, rfl⟩

theorem ef_rs6i4 (m : MethodId) (x0 : Addr) (x1 : Addr) (x2 : Int32) (x3 : Int32) : entryFrame m #[(.ref x0), (.ref x1), (.int x2), (.int x3), .null] 6 = mkF m 0 #[.val (.ref x0), .val (.ref x1), .val (.int x2), .val (.int x3), .val .null, .unset] [] := by first | (simp [entryFrame, mkF, argsToLocals, Value.category]; done) | rfl
def Q_rs6i4 (Z : State) (s_ : Addr) (a : Addr) (ca : ClassId) (qc : Int32) (c0_ : Int32) (c1_ : Int32) (c2_ : Int32) (c3_ : Int32) (c4_ : Int32) (c5_ : Int32) (h0 : Heap) (n0 : Nat) (v : Option Value) (h : Heap) (L : List Loc) : Prop := v = none ∧ Fr n0 L ∧ Keep h0 h [s_] ∧ Exa Z h s_ "java/lang/String" ∧ ∃ b cb, Fld Z h s_ "java/lang/String" "value" "[B" (.ref b) ∧ Fld Z h s_ "java/lang/String" "coder" "B" (.int (0 : Int32)) ∧ Arv Z h b cb .byte (6 : Int32) [(.int (nar .byte (c0_.toInt8.toInt32))), (.int (nar .byte (c1_.toInt8.toInt32))), (.int (nar .byte (c2_.toInt8.toInt32))), (.int (nar .byte (c3_.toInt8.toInt32))), (.int (nar .byte (c4_.toInt8.toInt32))), (.int (nar .byte (c5_.toInt8.toInt32)))] (.int (0 : Int32)) ∧ h0.size ≤ b
set_option maxRecDepth 65536 in
set_option maxHeartbeats 40000000 in
theorem rs6i4 (l : Launch) (Z : State) (a0 : Array Value) (hw : ∀ d ∈ tables_1, d.before a0 Z = true) (ws : List Jvm.Cond) (s_ : Addr) (a : Addr) (ca : ClassId) (qc : Int32) (c0_ : Int32) (c1_ : Int32) (c2_ : Int32) (c3_ : Int32) (c4_ : Int32) (c5_ : Int32) (h0 : Heap) (n0 : Nat) (Z0 : n0 ≤ h0.size) (E_s : Exa Z h0 s_ "java/lang/String") (g_s : n0 ≤ s_) (F_v : Fld Z h0 s_ "java/lang/String" "value" "[B" .null) (F_c : Fld Z h0 s_ "java/lang/String" "coder" "B" (.int (0 : Int32))) (V_a : Arv Z h0 a ca .char (6 : Int32) [(.int c0_), (.int c1_), (.int c2_), (.int c3_), (.int c4_), (.int c5_)] (.int (0 : Int32))) (nsa : s_ ≠ a) (S_q : Sta Z h0 "java/lang/String" "COMPACT_STRINGS" "Z" (.int qc)) (hq : ¬ qc = 0) (hl0 : ¬ (255 : Int32) < c0_) (hl1 : ¬ (255 : Int32) < c1_) (hl2 : ¬ (255 : Int32) < c2_) (hl3 : ¬ (255 : Int32) < c3_) (hl4 : ¬ (255 : Int32) < c4_) (hl5 : ¬ (255 : Int32) < c5_) :
    OCon l Z (⟨"java/lang/String", "<init>", "([CIILjava/lang/Void;)V"⟩ : MethodName) jdk_42_method_149_code 6 none ws ({ frames := 2, cells := 1, slots := 6, locals := 35 } : Room) #[(.ref s_), (.ref a), (.int (0 : Int32)), (.int (6 : Int32)), .null] h0 (Q_rs6i4 Z s_ a ca qc c0_ c1_ c2_ c3_ c4_ c5_ h0 n0) := by
  refine OCon.of (plainFor_of_name pn0) ?_
  intro p e s m below meth c s₁ Φ X0 hx hby hml hown hnm hret hlk hZ e0 hΦ
  have N0 := Fr.nil n0
  refine OGo.st (fun _ kz => castTop (ef_rs6i4 m s_ a (0 : Int32) (6 : Int32)) kz) ?_
  have K0 := Keep.refl h0 [s_]
  show OG p e below Φ s₁ m 0 #[rv s_, rv a, iv 0, iv 6, .val .null, .unset] []
  refine OGo.st (fun _ kz => XS.aloadN X0.here hx rfl (hb hby d3_0) rfl rfl kz) ?_
  show OG p e below Φ s₁ m 1 #[rv s_, rv a, iv 0, iv 6, .val .null, .unset] [(.ref s_)]
  obtain ⟨T1, X1, e1, st1⟩ := initO X0 hx hZ hown (ow16 hw) (ow17 hw) (ow18 hw) e0 (g := (mkF m 1 #[rv s_, rv a, iv 0, iv 6, .val .null, .unset] [(.ref s_)])) rfl (by rw [hml]; rfl) rfl (hb hby d3_1) (by decide) (W := 0) (Nat.le_of_eq rfl) (by decide)
  refine OGo.st st1 ?_
  show OG p e below Φ T1 m 4 #[rv s_, rv a, iv 0, iv 6, .val .null, .unset] []
  refine OGo.st (fun _ kz => XS.iloadN X1.here hx rfl (hb hby d3_4) rfl kz) ?_
  show OG p e below Φ T1 m 5 #[rv s_, rv a, iv 0, iv 6, .val .null, .unset] [(.int 6)]
  refine OGo.st (fun _ kz => XS.ifYes X1.here hx rfl (pc0 := 5) (pc' := 27) rfl (hb hby d3_5) rfl (XT.i0_ne_t (by decide)) (by decide) (by decide) kz) ?_
  show OG p e below Φ T1 m 27 #[rv s_, rv a, iv 0, iv 6, .val .null, .unset] []
  obtain ⟨T2, X2, e2, st2⟩ := getS2 X1 hx hZ hown (host := "") (Or.inl (ow19 hw)) Via.refl e1 S_q (g := (mkF m 27 #[rv s_, rv a, iv 0, iv 6, .val .null, .unset] [])) rfl (hb hby d3_27)
  refine OGo.st st2 ?_
  show OG p e below Φ T2 m 30 #[rv s_, rv a, iv 0, iv 6, .val .null, .unset] [(.int qc)]
  refine OGo.st (fun _ kz => XS.ifNo X2.here hx rfl (hb hby d3_30) rfl (XT.i0_eq_f hq) kz) ?_
  show OG p e below Φ T2 m 33 #[rv s_, rv a, iv 0, iv 6, .val .null, .unset] []
  refine OGo.st (fun _ kz => XS.aloadN X2.here hx rfl (hb hby d3_33) rfl rfl kz) ?_
  show OG p e below Φ T2 m 34 #[rv s_, rv a, iv 0, iv 6, .val .null, .unset] [(.ref a)]
  refine OGo.st (fun _ kz => XS.iloadN X2.here hx rfl (hb hby d3_34) rfl kz) ?_
  show OG p e below Φ T2 m 35 #[rv s_, rv a, iv 0, iv 6, .val .null, .unset] [(.int 0), (.ref a)]
  refine OGo.st (fun _ kz => XS.iloadN X2.here hx rfl (hb hby d3_35) rfl kz) ?_
  show OG p e below Φ T2 m 36 #[rv s_, rv a, iv 0, iv 6, .val .null, .unset] [(.int 6), (.int 0), (.ref a)]
  obtain ⟨_, T3, L3, X3, hQ3, st3⟩ := own_callSt X2 hx hZ hown (ow20 hw) (ow21 hw) (ow22 hw) (ow23 hw) (by decide) (rs6c3 l Z a0 hw [] a ca c0_ c1_ c2_ c3_ c4_ c5_ h0 n0 Z0 V_a hl0 hl1 hl2 hl3 hl4 hl5) e2 (W := 0) (by decide) (by decide) (by decide) (by decide) (pc := 36) (ls := #[rv s_, rv a, iv 0, iv 6, .val .null, .unset]) (stk := [(.int 6), (.int 0), (.ref a)]) (by rw [hml]; rfl) (argsL := [(.ref a), (.int 0), (.int 6)]) (rest := []) (lenOf pd2 rfl) rfl rfl (Nat.le_of_eq rfl) (hb hby d3_36)
  obtain ⟨b3, cb3, rfl, Nq3, Kq3, Vq3, hz3⟩ := hQ3
  have nq3_a : a ≠ b3 := Nat.ne_of_lt (Nat.lt_of_lt_of_le V_a.lt hz3)
  have nq3_s_ : s_ ≠ b3 := Nat.ne_of_lt (Nat.lt_of_lt_of_le E_s.lt hz3)
  have gq3 : n0 ≤ b3 := Nat.le_trans Z0 hz3
  have sq3 : h0.size ≤ b3 := Nat.le_trans K0.1 hz3
  have N3 := Fr.app N0 Nq3
  have Zs3 : n0 ≤ T3.heap.size := Nat.le_trans Z0 Kq3.1
  have F4 := E_s.keep Kq3
  have F5 := F_v.keep Kq3 nin0
  have F6 := F_c.keep Kq3 nin0
  have F7 := V_a.keep Kq3 nin0
  have K3 := K0.trans Kq3 all0
  refine OGo.st st3 ?_
  show OG p e below Φ T3 m 39 #[rv s_, rv a, iv 0, iv 6, .val .null, .unset] [(.ref b3)]
  refine OGo.st (fun _ kz => XS.astore X3.here hx rfl (hb hby d3_39) rfl rfl (l' := #[rv s_, rv a, iv 0, iv 6, .val .null, rv b3]) rfl kz) ?_
  show OG p e below Φ T3 m 41 #[rv s_, rv a, iv 0, iv 6, .val .null, rv b3] []
  refine OGo.st (fun _ kz => XS.aloadN X3.here hx rfl (hb hby d3_41) rfl rfl kz) ?_
  show OG p e below Φ T3 m 42 #[rv s_, rv a, iv 0, iv 6, .val .null, rv b3] [(.ref s_)]
  refine OGo.st (fun _ kz => XS.aload X3.here hx rfl (hb hby d3_42) rfl rfl kz) ?_
  show OG p e below Φ T3 m 44 #[rv s_, rv a, iv 0, iv 6, .val .null, rv b3] [(.ref b3), (.ref s_)]
  refine OGo.st (fun _ kz => XS.iloadN X3.here hx rfl (hb hby d3_44) rfl kz) ?_
  show OG p e below Φ T3 m 45 #[rv s_, rv a, iv 0, iv 6, .val .null, rv b3] [(.int 6), (.ref b3), (.ref s_)]
  obtain ⟨_, T8, L8, X8, hQ8, st8⟩ := own_callSt X3 hx hZ hown (ow27 hw) (ow28 hw) (ow22 hw) (ow29 hw) (by decide) (rs6cf l Z a0 hw [] b3 cb3 c0_ c1_ c2_ c3_ c4_ c5_ T3.heap n0 Zs3 Vq3) rfl (W := 1) (by decide) (by decide) (by decide) (by decide) (pc := 45) (ls := #[rv s_, rv a, iv 0, iv 6, .val .null, rv b3]) (stk := [(.int 6), (.ref b3), (.ref s_)]) (by rw [hml]; rfl) (argsL := [(.ref b3), (.int 6)]) (rest := [(.ref s_)]) (lenOf pd3 rfl) rfl rfl (Nat.le_of_eq rfl) (hb hby d3_45)
  obtain ⟨rfl, Nq8, e8⟩ := hQ8
  have N8 := Fr.app N3 Nq8
  refine OGo.st st8 ?_
  show OG p e below Φ T8 m 48 #[rv s_, rv a, iv 0, iv 6, .val .null, rv b3] [(.int 0), (.ref s_)]
  obtain ⟨T9, h9, X9, e9, W9, st9⟩ := putF X8 hx hZ hown (host := "") (Or.inl (ow30 hw)) Via.refl e8 F6 F4 (Or.inr ⟨(ow31 hw), rfl, hnm⟩) (ow7 hw) (ty := .byte) (by decide) (by decide) (by decide) (g := (mkF m 48 #[rv s_, rv a, iv 0, iv 6, .val .null, rv b3] [(.int 0), (.ref s_)])) rfl rfl (hb hby d3_48)
  have F10 := F4.wr W9
  have F11 := F5.other W9 (Or.inr (slot_ne (Or.inr (ow33 hw)) (Or.inr (ow31 hw)) (by decide) (t := (.array .byte)) (t' := .byte) (by decide) (by decide)))
  have F12 := F6.same W9
  have F13 := F7.other W9 (Ne.symm nsa)
  have F14 := Vq3.other W9 (Ne.symm nq3_s_)
  have K9 := K3.wr W9 (Or.inl (List.mem_of_getElem? (i := 0) rfl))
  have N9 := Fr.snoc X9 N8 g_s
  have Zs9 : n0 ≤ h9.size := by rw [W9.size]; exact Zs3
  refine OGo.st st9 ?_
  show OG p e below Φ T9 m 51 #[rv s_, rv a, iv 0, iv 6, .val .null, rv b3] []
  refine OGo.st (fun _ kz => XS.aloadN X9.here hx rfl (hb hby d3_51) rfl rfl kz) ?_
  show OG p e below Φ T9 m 52 #[rv s_, rv a, iv 0, iv 6, .val .null, rv b3] [(.ref s_)]
  refine OGo.st (fun _ kz => XS.aload X9.here hx rfl (hb hby d3_52) rfl rfl kz) ?_
  show OG p e below Φ T9 m 54 #[rv s_, rv a, iv 0, iv 6, .val .null, rv b3] [(.ref b3), (.ref s_)]
  obtain ⟨T15, h15, X15, e15, W15, st15⟩ := putF X9 hx hZ hown (host := "") (Or.inl (ow32 hw)) Via.refl e9 F11 F10 (Or.inr ⟨(ow33 hw), rfl, hnm⟩) (ow7 hw) (ty := (.array .byte)) (by decide) rfl rfl (g := (mkF m 54 #[rv s_, rv a, iv 0, iv 6, .val .null, rv b3] [(.ref b3), (.ref s_)])) rfl rfl (hb hby d3_54)
  have F16 := F10.wr W15
  have F17 := F11.same W15
  have F18 := F12.other W15 (Or.inr (slot_ne (Or.inr (ow31 hw)) (Or.inr (ow33 hw)) (by decide) (t := .byte) (t' := (.array .byte)) (by decide) (by decide)))
  have F19 := F13.other W15 (Ne.symm nsa)
  have F20 := F14.other W15 (Ne.symm nq3_s_)
  have K15 := K9.wr W15 (Or.inl (List.mem_of_getElem? (i := 0) rfl))
  have N15 := Fr.snoc X15 N9 g_s
  have Zs15 : n0 ≤ h15.size := by rw [W15.size]; exact Zs9
  refine OGo.st st15 ?_
  show OG p e below Φ T15 m 57 #[rv s_, rv a, iv 0, iv 6, .val .null, rv b3] []
  refine OGo.fin X15 hlk (v := none) (fun _ => rfl) (by decide) (by decide) (fun fs hr => X15.returnOut hx hret (hb hby d3_57) hr) fun U eU hF => hΦ _ _ _ ?_ hF
  rw [eU, e15]
  show Q_rs6i4 Z s_ a ca qc c0_ c1_ c2_ c3_ c4_ c5_ h0 n0 _ _ _
  exact ⟨rfl, N15, K15, F16, _, _, F17, F18, F20, sq3⟩

theorem ef_rs6i1 (m : MethodId) (x0 : Addr) (x1 : Addr) : entryFrame m #[(.ref x0), (.ref x1)] 2 = mkF m 0 #[.val (.ref x0), .val (.ref x1)] [] := by first | (simp [entryFrame, mkF, argsToLocals, Value.category]; done) | rfl
def Q_rs6i1 (Z : State) (s_ : Addr) (a : Addr) (ca : ClassId) (qc : Int32) (c0_ : Int32) (c1_ : Int32) (c2_ : Int32) (c3_ : Int32) (c4_ : Int32) (c5_ : Int32) (h0 : Heap) (n0 : Nat) (v : Option Value) (h : Heap) (L : List Loc) : Prop := v = none ∧ Fr n0 L ∧ Keep h0 h [s_] ∧ Exa Z h s_ "java/lang/String" ∧ ∃ b cb, Fld Z h s_ "java/lang/String" "value" "[B" (.ref b) ∧ Fld Z h s_ "java/lang/String" "coder" "B" (.int (0 : Int32)) ∧ Arv Z h b cb .byte (6 : Int32) [(.int (nar .byte (c0_.toInt8.toInt32))), (.int (nar .byte (c1_.toInt8.toInt32))), (.int (nar .byte (c2_.toInt8.toInt32))), (.int (nar .byte (c3_.toInt8.toInt32))), (.int (nar .byte (c4_.toInt8.toInt32))), (.int (nar .byte (c5_.toInt8.toInt32)))] (.int (0 : Int32)) ∧ h0.size ≤ b
set_option maxRecDepth 65536 in
set_option maxHeartbeats 40000000 in
theorem rs6i1 (l : Launch) (Z : State) (a0 : Array Value) (hw : ∀ d ∈ tables_1, d.before a0 Z = true) (ws : List Jvm.Cond) (s_ : Addr) (a : Addr) (ca : ClassId) (qc : Int32) (c0_ : Int32) (c1_ : Int32) (c2_ : Int32) (c3_ : Int32) (c4_ : Int32) (c5_ : Int32) (h0 : Heap) (n0 : Nat) (Z0 : n0 ≤ h0.size) (E_s : Exa Z h0 s_ "java/lang/String") (g_s : n0 ≤ s_) (F_v : Fld Z h0 s_ "java/lang/String" "value" "[B" .null) (F_c : Fld Z h0 s_ "java/lang/String" "coder" "B" (.int (0 : Int32))) (V_a : Arv Z h0 a ca .char (6 : Int32) [(.int c0_), (.int c1_), (.int c2_), (.int c3_), (.int c4_), (.int c5_)] (.int (0 : Int32))) (nsa : s_ ≠ a) (S_q : Sta Z h0 "java/lang/String" "COMPACT_STRINGS" "Z" (.int qc)) (hq : ¬ qc = 0) (hl0 : ¬ (255 : Int32) < c0_) (hl1 : ¬ (255 : Int32) < c1_) (hl2 : ¬ (255 : Int32) < c2_) (hl3 : ¬ (255 : Int32) < c3_) (hl4 : ¬ (255 : Int32) < c4_) (hl5 : ¬ (255 : Int32) < c5_) :
    OCon l Z (⟨"java/lang/String", "<init>", "([C)V"⟩ : MethodName) jdk_42_method_3_code 2 none ws ({ frames := 3, cells := 1, slots := 6, locals := 52 } : Room) #[(.ref s_), (.ref a)] h0 (Q_rs6i1 Z s_ a ca qc c0_ c1_ c2_ c3_ c4_ c5_ h0 n0) := by
  refine OCon.of (plainFor_of_name pn0) ?_
  intro p e s m below meth c s₁ Φ X0 hx hby hml hown hnm hret hlk hZ e0 hΦ
  have N0 := Fr.nil n0
  refine OGo.st (fun _ kz => castTop (ef_rs6i1 m s_ a) kz) ?_
  have K0 := Keep.refl h0 [s_]
  show OG p e below Φ s₁ m 0 #[rv s_, rv a] []
  refine OGo.st (fun _ kz => XS.aloadN X0.here hx rfl (hb hby d2_0) rfl rfl kz) ?_
  show OG p e below Φ s₁ m 1 #[rv s_, rv a] [(.ref s_)]
  refine OGo.st (fun _ kz => XS.aloadN X0.here hx rfl (hb hby d2_1) rfl rfl kz) ?_
  show OG p e below Φ s₁ m 2 #[rv s_, rv a] [(.ref a), (.ref s_)]
  refine OGo.st (fun _ kz => XS.iconst X0.here hx rfl (hb hby d2_2) kz) ?_
  show OG p e below Φ s₁ m 3 #[rv s_, rv a] [(.int 0), (.ref a), (.ref s_)]
  refine OGo.st (fun _ kz => XS.aloadN X0.here hx rfl (hb hby d2_3) rfl rfl kz) ?_
  show OG p e below Φ s₁ m 4 #[rv s_, rv a] [(.ref a), (.int 0), (.ref a), (.ref s_)]
  obtain ⟨cl1, Aq1, -, S1, M1, -, -⟩ := id V_a
  refine OGo.st (fun _ kz => X0.arraylength hx (by rw [e0]; exact Aq1.1) (State.isArrayOf_alike hZ.alike Aq1.2.1) (g := (mkF m 4 #[rv s_, rv a] [(.ref a), (.int 0), (.ref a), (.ref s_)])) rfl rfl (hb hby d2_4) _ kz) ?_
  rw [len_of S1 M1]
  show OG p e below Φ s₁ m 5 #[rv s_, rv a] [(.int 6), (.int 0), (.ref a), (.ref s_)]
  refine OGo.st (fun _ kz => XS.aconstNull X0.here hx rfl (hb hby d2_5) kz) ?_
  show OG p e below Φ s₁ m 6 #[rv s_, rv a] [.null, (.int 6), (.int 0), (.ref a), (.ref s_)]
  obtain ⟨_, T2, L2, X2, hQ2, st2⟩ := own_callSp X0 hx hZ rfl hown (ow12 hw) (ow13 hw) (ow8 hw) (ow15 hw) (by decide) (rs6i4 l Z a0 hw [] s_ a ca qc c0_ c1_ c2_ c3_ c4_ c5_ h0 n0 Z0 E_s g_s F_v F_c V_a nsa S_q hq hl0 hl1 hl2 hl3 hl4 hl5) e0 (W := 0) (by decide) (by decide) (by decide) (by decide) (pc := 6) (ls := #[rv s_, rv a]) (stk := [.null, (.int 6), (.int 0), (.ref a), (.ref s_)]) (by rw [hml]; rfl) (a := s_) (argsL := [(.ref a), (.int 0), (.int 6), .null]) (rest := []) (lenOf pd4 rfl) rfl rfl (Nat.le_of_eq rfl) (hb hby d2_6)
  obtain ⟨rfl, Nq2, Kq2, Eq2, b2, cb2, Fv2, Fc2, Vq2, hz2⟩ := hQ2
  have nq2_a : a ≠ b2 := Nat.ne_of_lt (Nat.lt_of_lt_of_le V_a.lt hz2)
  have nq2_s_ : s_ ≠ b2 := Nat.ne_of_lt (Nat.lt_of_lt_of_le E_s.lt hz2)
  have gq2 : n0 ≤ b2 := Nat.le_trans Z0 hz2
  have sq2 : h0.size ≤ b2 := Nat.le_trans K0.1 hz2
  have N2 := Fr.app N0 Nq2
  have Zs2 : n0 ≤ T2.heap.size := Nat.le_trans Z0 Kq2.1
  have F3 := V_a.keep Kq2 (ninS (Ne.symm nsa) nin0)
  have K2 := K0.trans Kq2 (allS (Or.inl (List.mem_of_getElem? (i := 0) rfl)) all0)
  refine OGo.st st2 ?_
  show OG p e below Φ T2 m 9 #[rv s_, rv a] []
  refine OGo.fin X2 hlk (v := none) (fun _ => rfl) (by decide) (by decide) (fun fs hr => X2.returnOut hx hret (hb hby d2_9) hr) fun U eU hF => hΦ _ _ _ ?_ hF
  rw [eU]
  show Q_rs6i1 Z s_ a ca qc c0_ c1_ c2_ c3_ c4_ c5_ h0 n0 _ _ _
  exact ⟨rfl, N2, K2, Eq2, _, _, Fv2, Fc2, Vq2, sq2⟩

theorem ef_rof2 (m : MethodId) (x0 : Addr) : entryFrame m #[(.ref x0)] 3 = mkF m 0 #[.val (.ref x0), .unset, .unset] [] := by first | (simp [entryFrame, mkF, argsToLocals, Value.category]; done) | rfl
def Q_rof2 (Z : State) (ay : Addr) (cy : ClassId) (y0_ : Int32) (y1_ : Int32) (ah : Addr) (ch : ClassId) (qc : Int32) (h0 : Heap) (n0 : Nat) (v : Option Value) (h : Heap) (L : List Loc) : Prop := ∃ s_ b cb, v = some (.ref s_) ∧ Fr n0 L ∧ Keep h0 h [] ∧ Exa Z h s_ "java/lang/String" ∧ Fld Z h s_ "java/lang/String" "value" "[B" (.ref b) ∧ Fld Z h s_ "java/lang/String" "coder" "B" (.int (0 : Int32)) ∧ Arv Z h b cb .byte (6 : Int32) [(.int (92 : Int32)), (.int (120 : Int32)), (.int (own_hi y0_)), (.int (own_lo y0_)), (.int (own_hi y1_)), (.int (own_lo y1_))] (.int (0 : Int32)) ∧ h0.size ≤ s_ ∧ h0.size ≤ b ∧ s_ ≠ b
set_option maxRecDepth 65536 in
set_option maxHeartbeats 40000000 in
theorem rof2 (l : Launch) (Z : State) (a0 : Array Value) (hw : ∀ d ∈ tables_1, d.before a0 Z = true) (ws : List Jvm.Cond) (ay : Addr) (cy : ClassId) (y0_ : Int32) (y1_ : Int32) (ah : Addr) (ch : ClassId) (qc : Int32) (h0 : Heap) (n0 : Nat) (Z0 : n0 ≤ h0.size) (O_0 : Old Z n0 h0) (V_y : Arv Z h0 ay cy .byte (2 : Int32) [(.int y0_), (.int y1_)] (.int (0 : Int32))) (V_h : Arv Z h0 ah ch .char (16 : Int32) own_hxl (.int (0 : Int32))) (S_h : Sta Z Z.heap "com/example/crossweave/crossweave/PostgreSqlText" "HEX_DIGITS" "[C" (.ref ah)) (S_cs : Sta Z Z.heap "java/lang/String" "COMPACT_STRINGS" "Z" (.int qc)) (hq : ¬ qc = 0) :
    OCon l Z (⟨"com/example/crossweave/crossweave/PostgreSqlText", "ofBytes", "([B)Ljava/lang/String;"⟩ : MethodName) prog_4_method_7_code 3 (some (.object "java/lang/String")) ws ({ frames := 4, cells := 3, slots := 16, locals := 66 } : Room) #[(.ref ay)] h0 (Q_rof2 Z ay cy y0_ y1_ ah ch qc h0 n0) := by
  refine OCon.of (plainFor_of_name pn4) ?_
  intro p e s m below meth c s₁ Φ X0 hx hby hml hown hnm hret hlk hZ e0 hΦ
  have N0 := Fr.nil n0
  refine OGo.st (fun _ kz => castTop (ef_rof2 m ay) kz) ?_
  have K0 := Keep.refl h0 []
  show OG p e below Φ s₁ m 0 #[rv ay, .unset, .unset] []
  refine OGo.st (fun _ kz => XS.iconst X0.here hx rfl (hb hby d1_0) kz) ?_
  show OG p e below Φ s₁ m 1 #[rv ay, .unset, .unset] [(.int 2)]
  refine OGo.st (fun _ kz => XS.iconst X0.here hx rfl (hb hby d1_1) kz) ?_
  show OG p e below Φ s₁ m 2 #[rv ay, .unset, .unset] [(.int 2), (.int 2)]
  refine OGo.st (fun _ kz => XS.aloadN X0.here hx rfl (hb hby d1_2) rfl rfl kz) ?_
  show OG p e below Φ s₁ m 3 #[rv ay, .unset, .unset] [(.ref ay), (.int 2), (.int 2)]
  obtain ⟨cl1, Aq1, -, S1, M1, -, -⟩ := id V_y
  refine OGo.st (fun _ kz => X0.arraylength hx (by rw [e0]; exact Aq1.1) (State.isArrayOf_alike hZ.alike Aq1.2.1) (g := (mkF m 3 #[rv ay, .unset, .unset] [(.ref ay), (.int 2), (.int 2)])) rfl rfl (hb hby d1_3) _ kz) ?_
  rw [len_of S1 M1]
  show OG p e below Φ s₁ m 4 #[rv ay, .unset, .unset] [(.int 2), (.int 2), (.int 2)]
  refine OGo.st (fun _ kz => XS.imul X0.here hx rfl (hb hby d1_4) rfl kz) ?_
  show OG p e below Φ s₁ m 5 #[rv ay, .unset, .unset] [(.int 4), (.int 2)]
  refine OGo.st (fun _ kz => XS.iadd X0.here hx rfl (hb hby d1_5) rfl kz) ?_
  show OG p e below Φ s₁ m 6 #[rv ay, .unset, .unset] [(.int 6)]
  obtain ⟨T2, h2, c2, X2, e2, E2, Ar2, st2⟩ := newP (aty := .char) X0 hx hZ (ow5 hw) e0 (g := (mkF m 6 #[rv ay, .unset, .unset] [(.int 6)])) rfl (hb hby d1_6) rfl (by decide) (cap := 6) (by decide) (by decide) (by decide) (by decide)
  obtain ⟨b2, g2⟩ : ∃ z, z = h0.size := ⟨_, rfl⟩
  rw [← g2] at Ar2 st2
  have ne2_ah : ah ≠ b2 := by rw [g2]; exact Nat.ne_of_lt V_h.lt
  have ne2_ay : ay ≠ b2 := by rw [g2]; exact Nat.ne_of_lt V_y.lt
  have F3 := V_y.ext E2
  have F4 := V_h.ext E2
  have F5 := O_0.ext E2
  have gb2 : n0 ≤ b2 := Nat.le_trans Z0 (Nat.le_of_eq g2.symm)
  have sz2 : h0.size ≤ b2 := Nat.le_trans K0.1 (Nat.le_of_eq g2.symm)
  have K2 := K0.ext E2
  have Zs2 : n0 ≤ h2.size := Nat.le_trans Z0 E2.1
  have V2 : Arv Z h2 b2 c2 .char (6 : Int32) [(.int (0 : Int32)), (.int (0 : Int32)), (.int (0 : Int32)), (.int (0 : Int32)), (.int (0 : Int32)), (.int (0 : Int32))] (.int (0 : Int32)) := (Arv.new Ar2 (by decide)).pad (pad_rep [] _ 6)
  refine OGo.st st2 ?_
  show OG p e below Φ T2 m 8 #[rv ay, .unset, .unset] [(.ref b2)]
  refine OGo.st (fun _ kz => XS.astoreN X2.here hx rfl (hb hby d1_8) rfl rfl (l' := #[rv ay, rv b2, .unset]) rfl kz) ?_
  show OG p e below Φ T2 m 9 #[rv ay, rv b2, .unset] []
  refine OGo.st (fun _ kz => XS.aloadN X2.here hx rfl (hb hby d1_9) rfl rfl kz) ?_
  show OG p e below Φ T2 m 10 #[rv ay, rv b2, .unset] [(.ref b2)]
  refine OGo.st (fun _ kz => XS.iconst X2.here hx rfl (hb hby d1_10) kz) ?_
  show OG p e below Φ T2 m 11 #[rv ay, rv b2, .unset] [(.int 0), (.ref b2)]
  refine OGo.st (fun _ kz => XS.bipush X2.here hx rfl (hb hby d1_11) kz) ?_
  show OG p e below Φ T2 m 13 #[rv ay, rv b2, .unset] [(.int 92), (.int 0), (.ref b2)]
  obtain ⟨cl6, Aq6, Cq6, S6, M6, H6, G6⟩ := id V2
  have in6 : ¬ ((0 : Int32) < 0 ∨ cl6.slots.size ≤ (0 : Int32).toNatClampNeg) := inb_of S6 ⟨by decide, by decide⟩
  obtain ⟨T6, h6, X6, e6, W6, st6⟩ := stC X2 hx hZ e2 Aq6 in6 (g := (mkF m 13 #[rv ay, rv b2, .unset] [(.int 92), (.int 0), (.ref b2)])) rfl rfl (hb hby d1_13)
  have W6 : Wr h2 h6 b2 (0 : Int32).toNatClampNeg (.int (92 : Int32)) := W6
  have F7 := F3.other W6 ne2_ay
  have F8 := F4.other W6 ne2_ah
  have F9 := F5.wr W6 gb2
  have V6 : Arv Z h6 b2 c2 .char (6 : Int32) [(.int (92 : Int32)), (.int (0 : Int32)), (.int (0 : Int32)), (.int (0 : Int32)), (.int (0 : Int32)), (.int (0 : Int32))] (.int (0 : Int32)) := Arv.set Aq6 Cq6 S6 M6 H6 G6 (by decide) W6 0 (by decide) (by show 0 < 6; decide)
  have K6 := K2.wr W6 (Or.inr sz2)
  have N6 := Fr.snoc X6 N0 gb2
  have Zs6 : n0 ≤ h6.size := by rw [W6.size]; exact Zs2
  refine OGo.st st6 ?_
  show OG p e below Φ T6 m 14 #[rv ay, rv b2, .unset] []
  refine OGo.st (fun _ kz => XS.aloadN X6.here hx rfl (hb hby d1_14) rfl rfl kz) ?_
  show OG p e below Φ T6 m 15 #[rv ay, rv b2, .unset] [(.ref b2)]
  refine OGo.st (fun _ kz => XS.iconst X6.here hx rfl (hb hby d1_15) kz) ?_
  show OG p e below Φ T6 m 16 #[rv ay, rv b2, .unset] [(.int 1), (.ref b2)]
  refine OGo.st (fun _ kz => XS.bipush X6.here hx rfl (hb hby d1_16) kz) ?_
  show OG p e below Φ T6 m 18 #[rv ay, rv b2, .unset] [(.int 120), (.int 1), (.ref b2)]
  obtain ⟨cl10, Aq10, Cq10, S10, M10, H10, G10⟩ := id V6
  have in10 : ¬ ((1 : Int32) < 0 ∨ cl10.slots.size ≤ (1 : Int32).toNatClampNeg) := inb_of S10 ⟨by decide, by decide⟩
  obtain ⟨T10, h10, X10, e10, W10, st10⟩ := stC X6 hx hZ e6 Aq10 in10 (g := (mkF m 18 #[rv ay, rv b2, .unset] [(.int 120), (.int 1), (.ref b2)])) rfl rfl (hb hby d1_18)
  have W10 : Wr h6 h10 b2 (1 : Int32).toNatClampNeg (.int (120 : Int32)) := W10
  have F11 := F7.other W10 ne2_ay
  have F12 := F8.other W10 ne2_ah
  have F13 := F9.wr W10 gb2
  have V10 : Arv Z h10 b2 c2 .char (6 : Int32) [(.int (92 : Int32)), (.int (120 : Int32)), (.int (0 : Int32)), (.int (0 : Int32)), (.int (0 : Int32)), (.int (0 : Int32))] (.int (0 : Int32)) := Arv.set Aq10 Cq10 S10 M10 H10 G10 (by decide) W10 1 (by decide) (by show 1 < 6; decide)
  have K10 := K6.wr W10 (Or.inr sz2)
  have N10 := Fr.snoc X10 N6 gb2
  have Zs10 : n0 ≤ h10.size := by rw [W10.size]; exact Zs6
  refine OGo.st st10 ?_
  show OG p e below Φ T10 m 19 #[rv ay, rv b2, .unset] []
  refine OGo.st (fun _ kz => XS.iconst X10.here hx rfl (hb hby d1_19) kz) ?_
  show OG p e below Φ T10 m 20 #[rv ay, rv b2, .unset] [(.int 0)]
  refine OGo.st (fun _ kz => XS.istoreN X10.here hx rfl (hb hby d1_20) rfl (l' := #[rv ay, rv b2, iv 0]) rfl kz) ?_
  show OG p e below Φ T10 m 21 #[rv ay, rv b2, iv 0] []
  refine OGo.st (fun _ kz => XS.iloadN X10.here hx rfl (hb hby d1_21) rfl kz) ?_
  show OG p e below Φ T10 m 22 #[rv ay, rv b2, iv 0] [(.int 0)]
  refine OGo.st (fun _ kz => XS.aloadN X10.here hx rfl (hb hby d1_22) rfl rfl kz) ?_
  show OG p e below Φ T10 m 23 #[rv ay, rv b2, iv 0] [(.ref ay), (.int 0)]
  obtain ⟨cl14, Aq14, -, S14, M14, -, -⟩ := id F11
  refine OGo.st (fun _ kz => X10.arraylength hx (by rw [e10]; exact Aq14.1) (State.isArrayOf_alike hZ.alike Aq14.2.1) (g := (mkF m 23 #[rv ay, rv b2, iv 0] [(.ref ay), (.int 0)])) rfl rfl (hb hby d1_23) _ kz) ?_
  rw [len_of S14 M14]
  show OG p e below Φ T10 m 24 #[rv ay, rv b2, iv 0] [(.int 2), (.int 0)]
  refine OGo.st (fun _ kz => XS.icmpNo X10.here hx rfl (hb hby d1_24) rfl (XT.ii_ge_f (by decide)) kz) ?_
  show OG p e below Φ T10 m 27 #[rv ay, rv b2, iv 0] []
  refine OGo.st (fun _ kz => XS.aloadN X10.here hx rfl (hb hby d1_27) rfl rfl kz) ?_
  show OG p e below Φ T10 m 28 #[rv ay, rv b2, iv 0] [(.ref b2)]
  refine OGo.st (fun _ kz => XS.iconst X10.here hx rfl (hb hby d1_28) kz) ?_
  show OG p e below Φ T10 m 29 #[rv ay, rv b2, iv 0] [(.int 2), (.ref b2)]
  refine OGo.st (fun _ kz => XS.iconst X10.here hx rfl (hb hby d1_29) kz) ?_
  show OG p e below Φ T10 m 30 #[rv ay, rv b2, iv 0] [(.int 2), (.int 2), (.ref b2)]
  refine OGo.st (fun _ kz => XS.iloadN X10.here hx rfl (hb hby d1_30) rfl kz) ?_
  show OG p e below Φ T10 m 31 #[rv ay, rv b2, iv 0] [(.int 0), (.int 2), (.int 2), (.ref b2)]
  refine OGo.st (fun _ kz => XS.imul X10.here hx rfl (hb hby d1_31) rfl kz) ?_
  show OG p e below Φ T10 m 32 #[rv ay, rv b2, iv 0] [(.int 0), (.int 2), (.ref b2)]
  refine OGo.st (fun _ kz => XS.iadd X10.here hx rfl (hb hby d1_32) rfl kz) ?_
  show OG p e below Φ T10 m 33 #[rv ay, rv b2, iv 0] [(.int 2), (.ref b2)]
  have Sh15 := S_h.ext F13.2
  obtain ⟨T16, X16, e16, st16⟩ := getS2 X10 hx hZ hown (host := "") (Or.inl (ow66 hw)) Via.refl e10 Sh15 (g := (mkF m 33 #[rv ay, rv b2, iv 0] [(.int 2), (.ref b2)])) rfl (hb hby d1_33)
  refine OGo.st st16 ?_
  show OG p e below Φ T16 m 36 #[rv ay, rv b2, iv 0] [(.ref ah), (.int 2), (.ref b2)]
  refine OGo.st (fun _ kz => XS.aloadN X16.here hx rfl (hb hby d1_36) rfl rfl kz) ?_
  show OG p e below Φ T16 m 37 #[rv ay, rv b2, iv 0] [(.ref ay), (.ref ah), (.int 2), (.ref b2)]
  refine OGo.st (fun _ kz => XS.iloadN X16.here hx rfl (hb hby d1_37) rfl kz) ?_
  show OG p e below Φ T16 m 38 #[rv ay, rv b2, iv 0] [(.int 0), (.ref ay), (.ref ah), (.int 2), (.ref b2)]
  obtain ⟨cl17, Aq17, -, S17, M17, H17, -⟩ := id F11
  have in17 : ¬ ((0 : Int32) < 0 ∨ cl17.slots.size ≤ (0 : Int32).toNatClampNeg) := inb_of S17 ⟨by decide, by decide⟩
  have at17 : cl17.slots[(0 : Int32).toNatClampNeg]? = some (.int y0_) := H17.at in17 rfl
  refine OGo.st (fun _ kz => X16.baloadBytes hx (by rw [e16]; exact Aq17.1) (State.isArrayOf_alike hZ.alike Aq17.2.1) Aq17.2.2 in17 at17 (g := (mkF m 38 #[rv ay, rv b2, iv 0] [(.int 0), (.ref ay), (.ref ah), (.int 2), (.ref b2)])) rfl rfl (hb hby d1_38) _ kz) ?_
  show OG p e below Φ T16 m 39 #[rv ay, rv b2, iv 0] [(.int y0_), (.ref ah), (.int 2), (.ref b2)]
  refine OGo.st (fun _ kz => XS.iconst X16.here hx rfl (hb hby d1_39) kz) ?_
  show OG p e below Φ T16 m 40 #[rv ay, rv b2, iv 0] [(.int 4), (.int y0_), (.ref ah), (.int 2), (.ref b2)]
  refine OGo.st (fun _ kz => XT.ishr X16.here hx rfl (hb hby d1_40) rfl kz) ?_
  show OG p e below Φ T16 m 41 #[rv ay, rv b2, iv 0] [(.int (y0_ >>> ((4 : Int32) &&& 31))), (.ref ah), (.int 2), (.ref b2)]
  refine OGo.st (fun _ kz => XS.bipush X16.here hx rfl (hb hby d1_41) kz) ?_
  show OG p e below Φ T16 m 43 #[rv ay, rv b2, iv 0] [(.int 15), (.int (y0_ >>> ((4 : Int32) &&& 31))), (.ref ah), (.int 2), (.ref b2)]
  refine OGo.st (fun _ kz => XS.iand X16.here hx rfl (hb hby d1_43) rfl kz) ?_
  show OG p e below Φ T16 m 44 #[rv ay, rv b2, iv 0] [(.int ((y0_ >>> ((4 : Int32) &&& 31)) &&& (15 : Int32))), (.ref ah), (.int 2), (.ref b2)]
  obtain ⟨cl18, Aq18, -, S18, M18, H18, -⟩ := id F12
  refine OGo.st (fun _ kz => X16.caload hx (by rw [e16]; exact Aq18.1) (State.isArrayOf_alike hZ.alike Aq18.2.1) Aq18.2.2 (inb_of S18 (own_m15 (y0_ >>> ((4 : Int32) &&& 31)))) (own_hexAt S18 H18 (y0_ >>> ((4 : Int32) &&& 31))) (g := (mkF m 44 #[rv ay, rv b2, iv 0] [(.int ((y0_ >>> ((4 : Int32) &&& 31)) &&& (15 : Int32))), (.ref ah), (.int 2), (.ref b2)])) rfl rfl (hb hby d1_44) _ kz) ?_
  show OG p e below Φ T16 m 45 #[rv ay, rv b2, iv 0] [(.int (own_hx ((y0_ >>> ((4 : Int32) &&& 31)) &&& (15 : Int32)))), (.int 2), (.ref b2)]
  obtain ⟨cl19, Aq19, Cq19, S19, M19, H19, G19⟩ := id V10
  have in19 : ¬ ((2 : Int32) < 0 ∨ cl19.slots.size ≤ (2 : Int32).toNatClampNeg) := inb_of S19 ⟨by decide, by decide⟩
  obtain ⟨T19, h19, X19, e19, W19, st19⟩ := stC X16 hx hZ e16 Aq19 in19 (g := (mkF m 45 #[rv ay, rv b2, iv 0] [(.int (own_hx ((y0_ >>> ((4 : Int32) &&& 31)) &&& (15 : Int32)))), (.int 2), (.ref b2)])) rfl rfl (hb hby d1_45)
  have W19 : Wr h10 h19 b2 (2 : Int32).toNatClampNeg (.int (nar .char (own_hx ((y0_ >>> ((4 : Int32) &&& 31)) &&& (15 : Int32))))) := W19
  have F20 := F11.other W19 ne2_ay
  have F21 := F12.other W19 ne2_ah
  have F22 := F13.wr W19 gb2
  have V19 : Arv Z h19 b2 c2 .char (6 : Int32) [(.int (92 : Int32)), (.int (120 : Int32)), (.int (nar .char (own_hx ((y0_ >>> ((4 : Int32) &&& 31)) &&& (15 : Int32))))), (.int (0 : Int32)), (.int (0 : Int32)), (.int (0 : Int32))] (.int (0 : Int32)) := Arv.set Aq19 Cq19 S19 M19 H19 G19 (fits_nar_char _) W19 2 (by decide) (by show 2 < 6; decide)
  have K19 := K10.wr W19 (Or.inr sz2)
  have N19 := Fr.snoc X19 N10 gb2
  have Zs19 : n0 ≤ h19.size := by rw [W19.size]; exact Zs10
  refine OGo.st st19 ?_
  show OG p e below Φ T19 m 46 #[rv ay, rv b2, iv 0] []
  refine OGo.st (fun _ kz => XS.aloadN X19.here hx rfl (hb hby d1_46) rfl rfl kz) ?_
  show OG p e below Φ T19 m 47 #[rv ay, rv b2, iv 0] [(.ref b2)]
  refine OGo.st (fun _ kz => XS.iconst X19.here hx rfl (hb hby d1_47) kz) ?_
  show OG p e below Φ T19 m 48 #[rv ay, rv b2, iv 0] [(.int 3), (.ref b2)]
  refine OGo.st (fun _ kz => XS.iconst X19.here hx rfl (hb hby d1_48) kz) ?_
  show OG p e below Φ T19 m 49 #[rv ay, rv b2, iv 0] [(.int 2), (.int 3), (.ref b2)]
  refine OGo.st (fun _ kz => XS.iloadN X19.here hx rfl (hb hby d1_49) rfl kz) ?_
  show OG p e below Φ T19 m 50 #[rv ay, rv b2, iv 0] [(.int 0), (.int 2), (.int 3), (.ref b2)]
  refine OGo.st (fun _ kz => XS.imul X19.here hx rfl (hb hby d1_50) rfl kz) ?_
  show OG p e below Φ T19 m 51 #[rv ay, rv b2, iv 0] [(.int 0), (.int 3), (.ref b2)]
  refine OGo.st (fun _ kz => XS.iadd X19.here hx rfl (hb hby d1_51) rfl kz) ?_
  show OG p e below Φ T19 m 52 #[rv ay, rv b2, iv 0] [(.int 3), (.ref b2)]
  have Sh23 := S_h.ext F22.2
  obtain ⟨T24, X24, e24, st24⟩ := getS2 X19 hx hZ hown (host := "") (Or.inl (ow66 hw)) Via.refl e19 Sh23 (g := (mkF m 52 #[rv ay, rv b2, iv 0] [(.int 3), (.ref b2)])) rfl (hb hby d1_52)
  refine OGo.st st24 ?_
  show OG p e below Φ T24 m 55 #[rv ay, rv b2, iv 0] [(.ref ah), (.int 3), (.ref b2)]
  refine OGo.st (fun _ kz => XS.aloadN X24.here hx rfl (hb hby d1_55) rfl rfl kz) ?_
  show OG p e below Φ T24 m 56 #[rv ay, rv b2, iv 0] [(.ref ay), (.ref ah), (.int 3), (.ref b2)]
  refine OGo.st (fun _ kz => XS.iloadN X24.here hx rfl (hb hby d1_56) rfl kz) ?_
  show OG p e below Φ T24 m 57 #[rv ay, rv b2, iv 0] [(.int 0), (.ref ay), (.ref ah), (.int 3), (.ref b2)]
  obtain ⟨cl25, Aq25, -, S25, M25, H25, -⟩ := id F20
  have in25 : ¬ ((0 : Int32) < 0 ∨ cl25.slots.size ≤ (0 : Int32).toNatClampNeg) := inb_of S25 ⟨by decide, by decide⟩
  have at25 : cl25.slots[(0 : Int32).toNatClampNeg]? = some (.int y0_) := H25.at in25 rfl
  refine OGo.st (fun _ kz => X24.baloadBytes hx (by rw [e24]; exact Aq25.1) (State.isArrayOf_alike hZ.alike Aq25.2.1) Aq25.2.2 in25 at25 (g := (mkF m 57 #[rv ay, rv b2, iv 0] [(.int 0), (.ref ay), (.ref ah), (.int 3), (.ref b2)])) rfl rfl (hb hby d1_57) _ kz) ?_
  show OG p e below Φ T24 m 58 #[rv ay, rv b2, iv 0] [(.int y0_), (.ref ah), (.int 3), (.ref b2)]
  refine OGo.st (fun _ kz => XS.bipush X24.here hx rfl (hb hby d1_58) kz) ?_
  show OG p e below Φ T24 m 60 #[rv ay, rv b2, iv 0] [(.int 15), (.int y0_), (.ref ah), (.int 3), (.ref b2)]
  refine OGo.st (fun _ kz => XS.iand X24.here hx rfl (hb hby d1_60) rfl kz) ?_
  show OG p e below Φ T24 m 61 #[rv ay, rv b2, iv 0] [(.int (y0_ &&& (15 : Int32))), (.ref ah), (.int 3), (.ref b2)]
  obtain ⟨cl26, Aq26, -, S26, M26, H26, -⟩ := id F21
  refine OGo.st (fun _ kz => X24.caload hx (by rw [e24]; exact Aq26.1) (State.isArrayOf_alike hZ.alike Aq26.2.1) Aq26.2.2 (inb_of S26 (own_m15 y0_)) (own_hexAt S26 H26 y0_) (g := (mkF m 61 #[rv ay, rv b2, iv 0] [(.int (y0_ &&& (15 : Int32))), (.ref ah), (.int 3), (.ref b2)])) rfl rfl (hb hby d1_61) _ kz) ?_
  show OG p e below Φ T24 m 62 #[rv ay, rv b2, iv 0] [(.int (own_hx (y0_ &&& (15 : Int32)))), (.int 3), (.ref b2)]
  obtain ⟨cl27, Aq27, Cq27, S27, M27, H27, G27⟩ := id V19
  have in27 : ¬ ((3 : Int32) < 0 ∨ cl27.slots.size ≤ (3 : Int32).toNatClampNeg) := inb_of S27 ⟨by decide, by decide⟩
  obtain ⟨T27, h27, X27, e27, W27, st27⟩ := stC X24 hx hZ e24 Aq27 in27 (g := (mkF m 62 #[rv ay, rv b2, iv 0] [(.int (own_hx (y0_ &&& (15 : Int32)))), (.int 3), (.ref b2)])) rfl rfl (hb hby d1_62)
  have W27 : Wr h19 h27 b2 (3 : Int32).toNatClampNeg (.int (nar .char (own_hx (y0_ &&& (15 : Int32))))) := W27
  have F28 := F20.other W27 ne2_ay
  have F29 := F21.other W27 ne2_ah
  have F30 := F22.wr W27 gb2
  have V27 : Arv Z h27 b2 c2 .char (6 : Int32) [(.int (92 : Int32)), (.int (120 : Int32)), (.int (nar .char (own_hx ((y0_ >>> ((4 : Int32) &&& 31)) &&& (15 : Int32))))), (.int (nar .char (own_hx (y0_ &&& (15 : Int32))))), (.int (0 : Int32)), (.int (0 : Int32))] (.int (0 : Int32)) := Arv.set Aq27 Cq27 S27 M27 H27 G27 (fits_nar_char _) W27 3 (by decide) (by show 3 < 6; decide)
  have K27 := K19.wr W27 (Or.inr sz2)
  have N27 := Fr.snoc X27 N19 gb2
  have Zs27 : n0 ≤ h27.size := by rw [W27.size]; exact Zs19
  refine OGo.st st27 ?_
  show OG p e below Φ T27 m 63 #[rv ay, rv b2, iv 0] []
  refine OGo.st (fun _ kz => XS.iinc X27.here hx rfl (hb hby d1_63) rfl (l' := #[rv ay, rv b2, iv ((0 : Int32) + (1 : Int32))]) rfl kz) ?_
  show OG p e below Φ T27 m 66 #[rv ay, rv b2, iv 1] []
  refine OGo.st (fun _ kz => XS.goto X27.here hx rfl (pc0 := 66) (pc' := 21) rfl (hb hby d1_66) (by decide) (by decide) kz) ?_
  show OG p e below Φ T27 m 21 #[rv ay, rv b2, iv 1] []
  refine OGo.st (fun _ kz => XS.iloadN X27.here hx rfl (hb hby d1_21) rfl kz) ?_
  show OG p e below Φ T27 m 22 #[rv ay, rv b2, iv 1] [(.int 1)]
  refine OGo.st (fun _ kz => XS.aloadN X27.here hx rfl (hb hby d1_22) rfl rfl kz) ?_
  show OG p e below Φ T27 m 23 #[rv ay, rv b2, iv 1] [(.ref ay), (.int 1)]
  obtain ⟨cl31, Aq31, -, S31, M31, -, -⟩ := id F28
  refine OGo.st (fun _ kz => X27.arraylength hx (by rw [e27]; exact Aq31.1) (State.isArrayOf_alike hZ.alike Aq31.2.1) (g := (mkF m 23 #[rv ay, rv b2, iv 1] [(.ref ay), (.int 1)])) rfl rfl (hb hby d1_23) _ kz) ?_
  rw [len_of S31 M31]
  show OG p e below Φ T27 m 24 #[rv ay, rv b2, iv 1] [(.int 2), (.int 1)]
  refine OGo.st (fun _ kz => XS.icmpNo X27.here hx rfl (hb hby d1_24) rfl (XT.ii_ge_f (by decide)) kz) ?_
  show OG p e below Φ T27 m 27 #[rv ay, rv b2, iv 1] []
  refine OGo.st (fun _ kz => XS.aloadN X27.here hx rfl (hb hby d1_27) rfl rfl kz) ?_
  show OG p e below Φ T27 m 28 #[rv ay, rv b2, iv 1] [(.ref b2)]
  refine OGo.st (fun _ kz => XS.iconst X27.here hx rfl (hb hby d1_28) kz) ?_
  show OG p e below Φ T27 m 29 #[rv ay, rv b2, iv 1] [(.int 2), (.ref b2)]
  refine OGo.st (fun _ kz => XS.iconst X27.here hx rfl (hb hby d1_29) kz) ?_
  show OG p e below Φ T27 m 30 #[rv ay, rv b2, iv 1] [(.int 2), (.int 2), (.ref b2)]
  refine OGo.st (fun _ kz => XS.iloadN X27.here hx rfl (hb hby d1_30) rfl kz) ?_
  show OG p e below Φ T27 m 31 #[rv ay, rv b2, iv 1] [(.int 1), (.int 2), (.int 2), (.ref b2)]
  refine OGo.st (fun _ kz => XS.imul X27.here hx rfl (hb hby d1_31) rfl kz) ?_
  show OG p e below Φ T27 m 32 #[rv ay, rv b2, iv 1] [(.int 2), (.int 2), (.ref b2)]
  refine OGo.st (fun _ kz => XS.iadd X27.here hx rfl (hb hby d1_32) rfl kz) ?_
  show OG p e below Φ T27 m 33 #[rv ay, rv b2, iv 1] [(.int 4), (.ref b2)]
  have Sh32 := S_h.ext F30.2
  obtain ⟨T33, X33, e33, st33⟩ := getS2 X27 hx hZ hown (host := "") (Or.inl (ow66 hw)) Via.refl e27 Sh32 (g := (mkF m 33 #[rv ay, rv b2, iv 1] [(.int 4), (.ref b2)])) rfl (hb hby d1_33)
  refine OGo.st st33 ?_
  show OG p e below Φ T33 m 36 #[rv ay, rv b2, iv 1] [(.ref ah), (.int 4), (.ref b2)]
  refine OGo.st (fun _ kz => XS.aloadN X33.here hx rfl (hb hby d1_36) rfl rfl kz) ?_
  show OG p e below Φ T33 m 37 #[rv ay, rv b2, iv 1] [(.ref ay), (.ref ah), (.int 4), (.ref b2)]
  refine OGo.st (fun _ kz => XS.iloadN X33.here hx rfl (hb hby d1_37) rfl kz) ?_
  show OG p e below Φ T33 m 38 #[rv ay, rv b2, iv 1] [(.int 1), (.ref ay), (.ref ah), (.int 4), (.ref b2)]
  obtain ⟨cl34, Aq34, -, S34, M34, H34, -⟩ := id F28
  have in34 : ¬ ((1 : Int32) < 0 ∨ cl34.slots.size ≤ (1 : Int32).toNatClampNeg) := inb_of S34 ⟨by decide, by decide⟩
  have at34 : cl34.slots[(1 : Int32).toNatClampNeg]? = some (.int y1_) := H34.at in34 rfl
  refine OGo.st (fun _ kz => X33.baloadBytes hx (by rw [e33]; exact Aq34.1) (State.isArrayOf_alike hZ.alike Aq34.2.1) Aq34.2.2 in34 at34 (g := (mkF m 38 #[rv ay, rv b2, iv 1] [(.int 1), (.ref ay), (.ref ah), (.int 4), (.ref b2)])) rfl rfl (hb hby d1_38) _ kz) ?_
  show OG p e below Φ T33 m 39 #[rv ay, rv b2, iv 1] [(.int y1_), (.ref ah), (.int 4), (.ref b2)]
  refine OGo.st (fun _ kz => XS.iconst X33.here hx rfl (hb hby d1_39) kz) ?_
  show OG p e below Φ T33 m 40 #[rv ay, rv b2, iv 1] [(.int 4), (.int y1_), (.ref ah), (.int 4), (.ref b2)]
  refine OGo.st (fun _ kz => XT.ishr X33.here hx rfl (hb hby d1_40) rfl kz) ?_
  show OG p e below Φ T33 m 41 #[rv ay, rv b2, iv 1] [(.int (y1_ >>> ((4 : Int32) &&& 31))), (.ref ah), (.int 4), (.ref b2)]
  refine OGo.st (fun _ kz => XS.bipush X33.here hx rfl (hb hby d1_41) kz) ?_
  show OG p e below Φ T33 m 43 #[rv ay, rv b2, iv 1] [(.int 15), (.int (y1_ >>> ((4 : Int32) &&& 31))), (.ref ah), (.int 4), (.ref b2)]
  refine OGo.st (fun _ kz => XS.iand X33.here hx rfl (hb hby d1_43) rfl kz) ?_
  show OG p e below Φ T33 m 44 #[rv ay, rv b2, iv 1] [(.int ((y1_ >>> ((4 : Int32) &&& 31)) &&& (15 : Int32))), (.ref ah), (.int 4), (.ref b2)]
  obtain ⟨cl35, Aq35, -, S35, M35, H35, -⟩ := id F29
  refine OGo.st (fun _ kz => X33.caload hx (by rw [e33]; exact Aq35.1) (State.isArrayOf_alike hZ.alike Aq35.2.1) Aq35.2.2 (inb_of S35 (own_m15 (y1_ >>> ((4 : Int32) &&& 31)))) (own_hexAt S35 H35 (y1_ >>> ((4 : Int32) &&& 31))) (g := (mkF m 44 #[rv ay, rv b2, iv 1] [(.int ((y1_ >>> ((4 : Int32) &&& 31)) &&& (15 : Int32))), (.ref ah), (.int 4), (.ref b2)])) rfl rfl (hb hby d1_44) _ kz) ?_
  show OG p e below Φ T33 m 45 #[rv ay, rv b2, iv 1] [(.int (own_hx ((y1_ >>> ((4 : Int32) &&& 31)) &&& (15 : Int32)))), (.int 4), (.ref b2)]
  obtain ⟨cl36, Aq36, Cq36, S36, M36, H36, G36⟩ := id V27
  have in36 : ¬ ((4 : Int32) < 0 ∨ cl36.slots.size ≤ (4 : Int32).toNatClampNeg) := inb_of S36 ⟨by decide, by decide⟩
  obtain ⟨T36, h36, X36, e36, W36, st36⟩ := stC X33 hx hZ e33 Aq36 in36 (g := (mkF m 45 #[rv ay, rv b2, iv 1] [(.int (own_hx ((y1_ >>> ((4 : Int32) &&& 31)) &&& (15 : Int32)))), (.int 4), (.ref b2)])) rfl rfl (hb hby d1_45)
  have W36 : Wr h27 h36 b2 (4 : Int32).toNatClampNeg (.int (nar .char (own_hx ((y1_ >>> ((4 : Int32) &&& 31)) &&& (15 : Int32))))) := W36
  have F37 := F28.other W36 ne2_ay
  have F38 := F29.other W36 ne2_ah
  have F39 := F30.wr W36 gb2
  have V36 : Arv Z h36 b2 c2 .char (6 : Int32) [(.int (92 : Int32)), (.int (120 : Int32)), (.int (nar .char (own_hx ((y0_ >>> ((4 : Int32) &&& 31)) &&& (15 : Int32))))), (.int (nar .char (own_hx (y0_ &&& (15 : Int32))))), (.int (nar .char (own_hx ((y1_ >>> ((4 : Int32) &&& 31)) &&& (15 : Int32))))), (.int (0 : Int32))] (.int (0 : Int32)) := Arv.set Aq36 Cq36 S36 M36 H36 G36 (fits_nar_char _) W36 4 (by decide) (by show 4 < 6; decide)
  have K36 := K27.wr W36 (Or.inr sz2)
  have N36 := Fr.snoc X36 N27 gb2
  have Zs36 : n0 ≤ h36.size := by rw [W36.size]; exact Zs27
  refine OGo.st st36 ?_
  show OG p e below Φ T36 m 46 #[rv ay, rv b2, iv 1] []
  refine OGo.st (fun _ kz => XS.aloadN X36.here hx rfl (hb hby d1_46) rfl rfl kz) ?_
  show OG p e below Φ T36 m 47 #[rv ay, rv b2, iv 1] [(.ref b2)]
  refine OGo.st (fun _ kz => XS.iconst X36.here hx rfl (hb hby d1_47) kz) ?_
  show OG p e below Φ T36 m 48 #[rv ay, rv b2, iv 1] [(.int 3), (.ref b2)]
  refine OGo.st (fun _ kz => XS.iconst X36.here hx rfl (hb hby d1_48) kz) ?_
  show OG p e below Φ T36 m 49 #[rv ay, rv b2, iv 1] [(.int 2), (.int 3), (.ref b2)]
  refine OGo.st (fun _ kz => XS.iloadN X36.here hx rfl (hb hby d1_49) rfl kz) ?_
  show OG p e below Φ T36 m 50 #[rv ay, rv b2, iv 1] [(.int 1), (.int 2), (.int 3), (.ref b2)]
  refine OGo.st (fun _ kz => XS.imul X36.here hx rfl (hb hby d1_50) rfl kz) ?_
  show OG p e below Φ T36 m 51 #[rv ay, rv b2, iv 1] [(.int 2), (.int 3), (.ref b2)]
  refine OGo.st (fun _ kz => XS.iadd X36.here hx rfl (hb hby d1_51) rfl kz) ?_
  show OG p e below Φ T36 m 52 #[rv ay, rv b2, iv 1] [(.int 5), (.ref b2)]
  have Sh40 := S_h.ext F39.2
  obtain ⟨T41, X41, e41, st41⟩ := getS2 X36 hx hZ hown (host := "") (Or.inl (ow66 hw)) Via.refl e36 Sh40 (g := (mkF m 52 #[rv ay, rv b2, iv 1] [(.int 5), (.ref b2)])) rfl (hb hby d1_52)
  refine OGo.st st41 ?_
  show OG p e below Φ T41 m 55 #[rv ay, rv b2, iv 1] [(.ref ah), (.int 5), (.ref b2)]
  refine OGo.st (fun _ kz => XS.aloadN X41.here hx rfl (hb hby d1_55) rfl rfl kz) ?_
  show OG p e below Φ T41 m 56 #[rv ay, rv b2, iv 1] [(.ref ay), (.ref ah), (.int 5), (.ref b2)]
  refine OGo.st (fun _ kz => XS.iloadN X41.here hx rfl (hb hby d1_56) rfl kz) ?_
  show OG p e below Φ T41 m 57 #[rv ay, rv b2, iv 1] [(.int 1), (.ref ay), (.ref ah), (.int 5), (.ref b2)]
  obtain ⟨cl42, Aq42, -, S42, M42, H42, -⟩ := id F37
  have in42 : ¬ ((1 : Int32) < 0 ∨ cl42.slots.size ≤ (1 : Int32).toNatClampNeg) := inb_of S42 ⟨by decide, by decide⟩
  have at42 : cl42.slots[(1 : Int32).toNatClampNeg]? = some (.int y1_) := H42.at in42 rfl
  refine OGo.st (fun _ kz => X41.baloadBytes hx (by rw [e41]; exact Aq42.1) (State.isArrayOf_alike hZ.alike Aq42.2.1) Aq42.2.2 in42 at42 (g := (mkF m 57 #[rv ay, rv b2, iv 1] [(.int 1), (.ref ay), (.ref ah), (.int 5), (.ref b2)])) rfl rfl (hb hby d1_57) _ kz) ?_
  show OG p e below Φ T41 m 58 #[rv ay, rv b2, iv 1] [(.int y1_), (.ref ah), (.int 5), (.ref b2)]
  refine OGo.st (fun _ kz => XS.bipush X41.here hx rfl (hb hby d1_58) kz) ?_
  show OG p e below Φ T41 m 60 #[rv ay, rv b2, iv 1] [(.int 15), (.int y1_), (.ref ah), (.int 5), (.ref b2)]
  refine OGo.st (fun _ kz => XS.iand X41.here hx rfl (hb hby d1_60) rfl kz) ?_
  show OG p e below Φ T41 m 61 #[rv ay, rv b2, iv 1] [(.int (y1_ &&& (15 : Int32))), (.ref ah), (.int 5), (.ref b2)]
  obtain ⟨cl43, Aq43, -, S43, M43, H43, -⟩ := id F38
  refine OGo.st (fun _ kz => X41.caload hx (by rw [e41]; exact Aq43.1) (State.isArrayOf_alike hZ.alike Aq43.2.1) Aq43.2.2 (inb_of S43 (own_m15 y1_)) (own_hexAt S43 H43 y1_) (g := (mkF m 61 #[rv ay, rv b2, iv 1] [(.int (y1_ &&& (15 : Int32))), (.ref ah), (.int 5), (.ref b2)])) rfl rfl (hb hby d1_61) _ kz) ?_
  show OG p e below Φ T41 m 62 #[rv ay, rv b2, iv 1] [(.int (own_hx (y1_ &&& (15 : Int32)))), (.int 5), (.ref b2)]
  obtain ⟨cl44, Aq44, Cq44, S44, M44, H44, G44⟩ := id V36
  have in44 : ¬ ((5 : Int32) < 0 ∨ cl44.slots.size ≤ (5 : Int32).toNatClampNeg) := inb_of S44 ⟨by decide, by decide⟩
  obtain ⟨T44, h44, X44, e44, W44, st44⟩ := stC X41 hx hZ e41 Aq44 in44 (g := (mkF m 62 #[rv ay, rv b2, iv 1] [(.int (own_hx (y1_ &&& (15 : Int32)))), (.int 5), (.ref b2)])) rfl rfl (hb hby d1_62)
  have W44 : Wr h36 h44 b2 (5 : Int32).toNatClampNeg (.int (nar .char (own_hx (y1_ &&& (15 : Int32))))) := W44
  have F45 := F37.other W44 ne2_ay
  have F46 := F38.other W44 ne2_ah
  have F47 := F39.wr W44 gb2
  have V44 : Arv Z h44 b2 c2 .char (6 : Int32) [(.int (92 : Int32)), (.int (120 : Int32)), (.int (nar .char (own_hx ((y0_ >>> ((4 : Int32) &&& 31)) &&& (15 : Int32))))), (.int (nar .char (own_hx (y0_ &&& (15 : Int32))))), (.int (nar .char (own_hx ((y1_ >>> ((4 : Int32) &&& 31)) &&& (15 : Int32))))), (.int (nar .char (own_hx (y1_ &&& (15 : Int32)))))] (.int (0 : Int32)) := Arv.set Aq44 Cq44 S44 M44 H44 G44 (fits_nar_char _) W44 5 (by decide) (by show 5 < 6; decide)
  have K44 := K36.wr W44 (Or.inr sz2)
  have N44 := Fr.snoc X44 N36 gb2
  have Zs44 : n0 ≤ h44.size := by rw [W44.size]; exact Zs36
  refine OGo.st st44 ?_
  show OG p e below Φ T44 m 63 #[rv ay, rv b2, iv 1] []
  refine OGo.st (fun _ kz => XS.iinc X44.here hx rfl (hb hby d1_63) rfl (l' := #[rv ay, rv b2, iv ((1 : Int32) + (1 : Int32))]) rfl kz) ?_
  show OG p e below Φ T44 m 66 #[rv ay, rv b2, iv 2] []
  refine OGo.st (fun _ kz => XS.goto X44.here hx rfl (pc0 := 66) (pc' := 21) rfl (hb hby d1_66) (by decide) (by decide) kz) ?_
  show OG p e below Φ T44 m 21 #[rv ay, rv b2, iv 2] []
  refine OGo.st (fun _ kz => XS.iloadN X44.here hx rfl (hb hby d1_21) rfl kz) ?_
  show OG p e below Φ T44 m 22 #[rv ay, rv b2, iv 2] [(.int 2)]
  refine OGo.st (fun _ kz => XS.aloadN X44.here hx rfl (hb hby d1_22) rfl rfl kz) ?_
  show OG p e below Φ T44 m 23 #[rv ay, rv b2, iv 2] [(.ref ay), (.int 2)]
  obtain ⟨cl48, Aq48, -, S48, M48, -, -⟩ := id F45
  refine OGo.st (fun _ kz => X44.arraylength hx (by rw [e44]; exact Aq48.1) (State.isArrayOf_alike hZ.alike Aq48.2.1) (g := (mkF m 23 #[rv ay, rv b2, iv 2] [(.ref ay), (.int 2)])) rfl rfl (hb hby d1_23) _ kz) ?_
  rw [len_of S48 M48]
  show OG p e below Φ T44 m 24 #[rv ay, rv b2, iv 2] [(.int 2), (.int 2)]
  refine OGo.st (fun _ kz => XS.icmpYes X44.here hx rfl (pc0 := 24) (pc' := 69) rfl (hb hby d1_24) rfl (XT.ii_ge_t (by decide)) (by decide) (by decide) kz) ?_
  show OG p e below Φ T44 m 69 #[rv ay, rv b2, iv 2] []
  obtain ⟨T49, h49, X49, e49, E49, A49, D49, U49, st49⟩ := newO X44 hx hZ hown (ow6 hw) (ow7 hw) (ow8 hw) e44 (g := (mkF m 69 #[rv ay, rv b2, iv 2] [])) rfl (hb hby d1_69) (by decide) (by decide)
  obtain ⟨b49, g49⟩ : ∃ z, z = h44.size := ⟨_, rfl⟩
  rw [← g49] at A49 D49 st49 U49
  have ne49_ah : ah ≠ b49 := by rw [g49]; exact Nat.ne_of_lt F46.lt
  have ne49_ay : ay ≠ b49 := by rw [g49]; exact Nat.ne_of_lt F45.lt
  have ne49_b2 : b2 ≠ b49 := by rw [g49]; exact Nat.ne_of_lt V44.lt
  have F50 := F45.ext E49
  have F51 := F46.ext E49
  have F52 := F47.ext E49
  have F53 := V44.ext E49
  have gb49 : n0 ≤ b49 := Nat.le_trans Zs44 (Nat.le_of_eq g49.symm)
  have K49 := K44.ext E49
  have sz49 : h0.size ≤ b49 := Nat.le_trans K44.1 (Nat.le_of_eq g49.symm)
  have Zs49 : n0 ≤ h49.size := Nat.le_trans Zs44 E49.1
  have F49_31 : Fld Z h49 b49 "java/lang/String" "coder" "B" (.int (0 : Int32)) := D49 (Or.inr (ow31 hw)) (ty := .byte) (by decide)
  have F49_33 : Fld Z h49 b49 "java/lang/String" "value" "[B" .null := D49 (Or.inr (ow33 hw)) (ty := (.array .byte)) (by decide)
  refine OGo.st (st49) ?_
  show OG p e below Φ T49 m 72 #[rv ay, rv b2, iv 2] [(.ref b49)]
  refine OGo.st (fun _ kz => XS.dup X49.here hx rfl (hb hby d1_72) rfl rfl kz) ?_
  show OG p e below Φ T49 m 73 #[rv ay, rv b2, iv 2] [(.ref b49), (.ref b49)]
  refine OGo.st (fun _ kz => XS.aloadN X49.here hx rfl (hb hby d1_73) rfl rfl kz) ?_
  show OG p e below Φ T49 m 74 #[rv ay, rv b2, iv 2] [(.ref b2), (.ref b49), (.ref b49)]
  obtain ⟨_, T54, L54, X54, hQ54, st54⟩ := own_callSp X49 hx hZ rfl hown (ow9 hw) (ow10 hw) (ow8 hw) (ow11 hw) (by decide) (rs6i1 l Z a0 hw [] b49 b2 c2 qc (92 : Int32) (120 : Int32) (nar .char (own_hx ((y0_ >>> ((4 : Int32) &&& 31)) &&& (15 : Int32)))) (nar .char (own_hx (y0_ &&& (15 : Int32)))) (nar .char (own_hx ((y1_ >>> ((4 : Int32) &&& 31)) &&& (15 : Int32)))) (nar .char (own_hx (y1_ &&& (15 : Int32)))) h49 n0 Zs49 A49 gb49 F49_33 F49_31 F53 (Ne.symm ne49_b2) (S_cs.ext F52.2) hq (by decide) (by decide) (own_hx255 _) (own_hx255 _) (own_hx255 _) (own_hx255 _)) e49 (W := 1) (by decide) (by decide) (by decide) (by decide) (pc := 74) (ls := #[rv ay, rv b2, iv 2]) (stk := [(.ref b2), (.ref b49), (.ref b49)]) (by rw [hml]; rfl) (a := b49) (argsL := [(.ref b2)]) (rest := [(.ref b49)]) (lenOf pd5 rfl) rfl rfl (Nat.le_of_eq rfl) (hb hby d1_74)
  obtain ⟨rfl, Nq54, Kq54, Eq54, b54, cb54, Fv54, Fc54, Vq54, hz54⟩ := hQ54
  have nq54_ah : ah ≠ b54 := Nat.ne_of_lt (Nat.lt_of_lt_of_le F51.lt hz54)
  have nq54_ay : ay ≠ b54 := Nat.ne_of_lt (Nat.lt_of_lt_of_le F50.lt hz54)
  have nq54_b2 : b2 ≠ b54 := Nat.ne_of_lt (Nat.lt_of_lt_of_le F53.lt hz54)
  have nq54_b49 : b49 ≠ b54 := Nat.ne_of_lt (Nat.lt_of_lt_of_le A49.lt hz54)
  have gq54 : n0 ≤ b54 := Nat.le_trans Zs49 hz54
  have sq54 : h0.size ≤ b54 := Nat.le_trans K49.1 hz54
  have N54 := Fr.app N44 Nq54
  have Zs54 : n0 ≤ T54.heap.size := Nat.le_trans Zs49 Kq54.1
  have F55 := F50.keep Kq54 (ninS ne49_ay nin0)
  have F56 := F51.keep Kq54 (ninS ne49_ah nin0)
  have F57 := F52.keep Kq54 (allS gb49 all0)
  have F58 := F53.keep Kq54 (ninS ne49_b2 nin0)
  have K54 := K49.trans Kq54 (allS (Or.inr sz49) all0)
  refine OGo.st st54 ?_
  show OG p e below Φ T54 m 77 #[rv ay, rv b2, iv 2] [(.ref b49)]
  refine OGo.fin X54 hlk (v := (some (.ref b49))) (fun h => by rw [hret] at h; cases h) (by decide) (by decide) (fun fs hr => X54.areturnOut hx rfl hret rfl (hb hby d1_77) hr) fun U eU hF => hΦ _ _ _ ?_ hF
  rw [eU]
  show Q_rof2 Z ay cy y0_ y1_ ah ch qc h0 n0 _ _ _
  exact ⟨_, _, _, rfl, N54, K54, Eq54, Fv54, Fc54, Vq54, sz49, sq54, nq54_b49⟩

theorem ef_rgle6 (m : MethodId) (x0 : Addr) : entryFrame m #[(.ref x0)] 1 = mkF m 0 #[.val (.ref x0)] [] := by first | (simp [entryFrame, mkF, argsToLocals, Value.category]; done) | rfl
def Q_rgle6 (Z : State) (s_ : Addr) (b : Addr) (cb : ClassId) (qc : Int32) (c0_ : Int32) (c1_ : Int32) (c2_ : Int32) (c3_ : Int32) (c4_ : Int32) (c5_ : Int32) (h0 : Heap) (n0 : Nat) (v : Option Value) (h : Heap) (L : List Loc) : Prop := v = some (.int (6 : Int32)) ∧ Fr n0 L ∧ h = h0
set_option maxRecDepth 65536 in
set_option maxHeartbeats 40000000 in
theorem rgle6 (l : Launch) (Z : State) (a0 : Array Value) (hw : ∀ d ∈ tables_1, d.before a0 Z = true) (ws : List Jvm.Cond) (s_ : Addr) (b : Addr) (cb : ClassId) (qc : Int32) (c0_ : Int32) (c1_ : Int32) (c2_ : Int32) (c3_ : Int32) (c4_ : Int32) (c5_ : Int32) (h0 : Heap) (n0 : Nat) (Z0 : n0 ≤ h0.size) (E_s : Exa Z h0 s_ "java/lang/String") (F_v : Fld Z h0 s_ "java/lang/String" "value" "[B" (.ref b)) (F_c : Fld Z h0 s_ "java/lang/String" "coder" "B" (.int (0 : Int32))) (V_b : Arv Z h0 b cb .byte (6 : Int32) [(.int c0_), (.int c1_), (.int c2_), (.int c3_), (.int c4_), (.int c5_)] (.int (0 : Int32))) (S_q : Sta Z h0 "java/lang/String" "COMPACT_STRINGS" "Z" (.int qc)) (hq : ¬ qc = 0) :
    OCon l Z (⟨"java/lang/String", "length", "()I"⟩ : MethodName) jdk_42_method_54_code 1 (some .int) ws ({ frames := 1, cells := 0, slots := 0, locals := 13 } : Room) #[(.ref s_)] h0 (Q_rgle6 Z s_ b cb qc c0_ c1_ c2_ c3_ c4_ c5_ h0 n0) := by
  refine OCon.of (plainFor_of_name pn0) ?_
  intro p e s m below meth c s₁ Φ X0 hx hby hml hown hnm hret hlk hZ e0 hΦ
  have N0 := Fr.nil n0
  refine OGo.st (fun _ kz => castTop (ef_rgle6 m s_) kz) ?_
  show OG p e below Φ s₁ m 0 #[rv s_] []
  refine OGo.st (fun _ kz => XS.aloadN X0.here hx rfl (hb hby d8_0) rfl rfl kz) ?_
  show OG p e below Φ s₁ m 1 #[rv s_] [(.ref s_)]
  obtain ⟨T1, X1, e1, st1⟩ := getF X0 hx hZ hown (host := "") (Or.inl (ow32 hw)) Via.refl e0 F_v (g := (mkF m 1 #[rv s_] [(.ref s_)])) rfl rfl (hb hby d8_1)
  refine OGo.st st1 ?_
  show OG p e below Φ T1 m 4 #[rv s_] [(.ref b)]
  obtain ⟨cl2, Aq2, -, S2, M2, -, -⟩ := id V_b
  refine OGo.st (fun _ kz => X1.arraylength hx (by rw [e1]; exact Aq2.1) (State.isArrayOf_alike hZ.alike Aq2.2.1) (g := (mkF m 4 #[rv s_] [(.ref b)])) rfl rfl (hb hby d8_4) _ kz) ?_
  rw [len_of S2 M2]
  show OG p e below Φ T1 m 5 #[rv s_] [(.int 6)]
  refine OGo.st (fun _ kz => XS.aloadN X1.here hx rfl (hb hby d8_5) rfl rfl kz) ?_
  show OG p e below Φ T1 m 6 #[rv s_] [(.ref s_), (.int 6)]
  obtain ⟨_, T3, L3, X3, hQ3, st3⟩ := own_callVi X1 hx hZ hown (ow39 hw) (ow40 hw) (notFace_of_selects (args := #[]) (mvT hZ (ow42 hw))) (ow42 hw) (ow41 hw) (ow8 hw) (ow43 hw) (by decide) (rgco l Z a0 hw [] s_ qc h0 n0 Z0 F_c S_q hq) e1 (W := 1) (by decide) (by decide) (by decide) (by decide) E_s (pc := 6) (ls := #[rv s_]) (stk := [(.ref s_), (.int 6)]) (by rw [hml]; rfl) (argsL := []) (rest := [(.int 6)]) (lenOf pd6 rfl) rfl rfl (Nat.le_of_eq rfl) (hb hby d8_6)
  obtain ⟨rfl, Nq3, e3⟩ := hQ3
  have N3 := Fr.app N0 Nq3
  refine OGo.st st3 ?_
  show OG p e below Φ T3 m 9 #[rv s_] [(.int 0), (.int 6)]
  refine OGo.st (fun _ kz => XT.ishr X3.here hx rfl (hb hby d8_9) rfl kz) ?_
  show OG p e below Φ T3 m 10 #[rv s_] [(.int 6)]
  refine OGo.fin X3 hlk (v := (some (.int 6))) (fun h => by rw [hret] at h; cases h) (by decide) (by decide) (fun fs hr => X3.ireturnOut hx hret rfl (by simp) (hb hby d8_10) hr) fun U eU hF => hΦ _ _ _ ?_ hF
  rw [eU, e3]
  show Q_rgle6 Z s_ b cb qc c0_ c1_ c2_ c3_ c4_ c5_ h0 n0 _ _ _
  exact ⟨rfl, N3, rfl⟩

theorem ef_rgl6_0 (m : MethodId) (x0 : Addr) (x1 : Int32) : entryFrame m #[(.ref x0), (.int x1)] 2 = mkF m 0 #[.val (.ref x0), .val (.int x1)] [] := by first | (simp [entryFrame, mkF, argsToLocals, Value.category]; done) | rfl
def Q_rgl6_0 (Z : State) (b : Addr) (cb : ClassId) (vf : Value) (c0_ : Int32) (c1_ : Int32) (c2_ : Int32) (c3_ : Int32) (c4_ : Int32) (c5_ : Int32) (h0 : Heap) (n0 : Nat) (v : Option Value) (h : Heap) (L : List Loc) : Prop := v = some (.int ((c0_ &&& (255 : Int32)).toUInt32.toUInt16.toUInt32.toInt32)) ∧ Fr n0 L ∧ h = h0
set_option maxRecDepth 65536 in
set_option maxHeartbeats 40000000 in
theorem rgl6_0 (l : Launch) (Z : State) (a0 : Array Value) (hw : ∀ d ∈ tables_1, d.before a0 Z = true) (ws : List Jvm.Cond) (b : Addr) (cb : ClassId) (vf : Value) (c0_ : Int32) (c1_ : Int32) (c2_ : Int32) (c3_ : Int32) (c4_ : Int32) (c5_ : Int32) (h0 : Heap) (n0 : Nat) (Z0 : n0 ≤ h0.size) (V_b : Arv Z h0 b cb .byte (6 : Int32) [(.int c0_), (.int c1_), (.int c2_), (.int c3_), (.int c4_), (.int c5_)] (.int (0 : Int32))) (S_f : Sta Z h0 "jdk/internal/util/Preconditions" "SIOOBE_FORMATTER" "Ljava/util/function/BiFunction;" vf) (rvf : vf.isRef = true) :
    OCon l Z (⟨"java/lang/StringLatin1", "charAt", "([BI)C"⟩ : MethodName) jdk_43_method_2_code 2 (some .char) ws ({ frames := 2, cells := 0, slots := 0, locals := 27 } : Room) #[(.ref b), (.int (0 : Int32))] h0 (Q_rgl6_0 Z b cb vf c0_ c1_ c2_ c3_ c4_ c5_ h0 n0) := by
  refine OCon.of (plainFor_of_name pn5) ?_
  intro p e s m below meth c s₁ Φ X0 hx hby hml hown hnm hret hlk hZ e0 hΦ
  have N0 := Fr.nil n0
  refine OGo.st (fun _ kz => castTop (ef_rgl6_0 m b (0 : Int32)) kz) ?_
  show OG p e below Φ s₁ m 0 #[rv b, iv 0] []
  refine OGo.st (fun _ kz => XS.iloadN X0.here hx rfl (hb hby d12_0) rfl kz) ?_
  show OG p e below Φ s₁ m 1 #[rv b, iv 0] [(.int 0)]
  refine OGo.st (fun _ kz => XS.aloadN X0.here hx rfl (hb hby d12_1) rfl rfl kz) ?_
  show OG p e below Φ s₁ m 2 #[rv b, iv 0] [(.ref b), (.int 0)]
  obtain ⟨cl1, Aq1, -, S1, M1, -, -⟩ := id V_b
  refine OGo.st (fun _ kz => X0.arraylength hx (by rw [e0]; exact Aq1.1) (State.isArrayOf_alike hZ.alike Aq1.2.1) (g := (mkF m 2 #[rv b, iv 0] [(.ref b), (.int 0)])) rfl rfl (hb hby d12_2) _ kz) ?_
  rw [len_of S1 M1]
  show OG p e below Φ s₁ m 3 #[rv b, iv 0] [(.int 6), (.int 0)]
  obtain ⟨_, T2, L2, X2, hQ2, st2⟩ := own_callSt X0 hx hZ hown (ow58 hw) (ow59 hw) (ow8 hw) (ow60 hw) (by decide) (rgci l Z a0 hw [] (0 : Int32) (6 : Int32) vf h0 n0 Z0 (by decide) (by decide) S_f rvf) e0 (W := 0) (by decide) (by decide) (by decide) (by decide) (pc := 3) (ls := #[rv b, iv 0]) (stk := [(.int 6), (.int 0)]) (by rw [hml]; rfl) (argsL := [(.int 0), (.int 6)]) (rest := []) (lenOf pd7 rfl) rfl rfl (Nat.le_of_eq rfl) (hb hby d12_3)
  obtain ⟨rfl, Nq2, e2⟩ := hQ2
  have N2 := Fr.app N0 Nq2
  refine OGo.st st2 ?_
  show OG p e below Φ T2 m 6 #[rv b, iv 0] []
  refine OGo.st (fun _ kz => XS.aloadN X2.here hx rfl (hb hby d12_6) rfl rfl kz) ?_
  show OG p e below Φ T2 m 7 #[rv b, iv 0] [(.ref b)]
  refine OGo.st (fun _ kz => XS.iloadN X2.here hx rfl (hb hby d12_7) rfl kz) ?_
  show OG p e below Φ T2 m 8 #[rv b, iv 0] [(.int 0), (.ref b)]
  obtain ⟨cl3, Aq3, -, S3, M3, H3, -⟩ := id V_b
  have in3 : ¬ ((0 : Int32) < 0 ∨ cl3.slots.size ≤ (0 : Int32).toNatClampNeg) := inb_of S3 ⟨by decide, by decide⟩
  have at3 : cl3.slots[(0 : Int32).toNatClampNeg]? = some (.int c0_) := H3.at in3 rfl
  refine OGo.st (fun _ kz => X2.baloadBytes hx (by rw [e2]; exact Aq3.1) (State.isArrayOf_alike hZ.alike Aq3.2.1) Aq3.2.2 in3 at3 (g := (mkF m 8 #[rv b, iv 0] [(.int 0), (.ref b)])) rfl rfl (hb hby d12_8) _ kz) ?_
  show OG p e below Φ T2 m 9 #[rv b, iv 0] [(.int c0_)]
  refine OGo.st (fun _ kz => XS.sipush X2.here hx rfl (hb hby d12_9) kz) ?_
  show OG p e below Φ T2 m 12 #[rv b, iv 0] [(.int 255), (.int c0_)]
  refine OGo.st (fun _ kz => XS.iand X2.here hx rfl (hb hby d12_12) rfl kz) ?_
  show OG p e below Φ T2 m 13 #[rv b, iv 0] [(.int (c0_ &&& (255 : Int32)))]
  refine OGo.st (fun _ kz => XT.i2c X2.here hx rfl (hb hby d12_13) rfl kz) ?_
  show OG p e below Φ T2 m 14 #[rv b, iv 0] [(.int ((c0_ &&& (255 : Int32)).toUInt32.toUInt16.toUInt32.toInt32))]
  refine OGo.fin X2 hlk (v := (some (.int ((c0_ &&& (255 : Int32)).toUInt32.toUInt16.toUInt32.toInt32)))) (fun h => by rw [hret] at h; cases h) (by decide) (by decide) (fun fs hr => X2.ireturnOut hx hret (XT.narrow_c _) (by simp) (hb hby d12_14) hr) fun U eU hF => hΦ _ _ _ ?_ hF
  rw [eU, e2]
  show Q_rgl6_0 Z b cb vf c0_ c1_ c2_ c3_ c4_ c5_ h0 n0 _ _ _
  exact ⟨rfl, N2, rfl⟩

theorem ef_rgh6_0 (m : MethodId) (x0 : Addr) (x1 : Int32) : entryFrame m #[(.ref x0), (.int x1)] 2 = mkF m 0 #[.val (.ref x0), .val (.int x1)] [] := by first | (simp [entryFrame, mkF, argsToLocals, Value.category]; done) | rfl
def Q_rgh6_0 (Z : State) (s_ : Addr) (b : Addr) (cb : ClassId) (qc : Int32) (vf : Value) (c0_ : Int32) (c1_ : Int32) (c2_ : Int32) (c3_ : Int32) (c4_ : Int32) (c5_ : Int32) (h0 : Heap) (n0 : Nat) (v : Option Value) (h : Heap) (L : List Loc) : Prop := v = some (.int ((c0_ &&& (255 : Int32)).toUInt32.toUInt16.toUInt32.toInt32)) ∧ Fr n0 L ∧ h = h0
set_option maxRecDepth 65536 in
set_option maxHeartbeats 40000000 in
theorem rgh6_0 (l : Launch) (Z : State) (a0 : Array Value) (hw : ∀ d ∈ tables_1, d.before a0 Z = true) (ws : List Jvm.Cond) (s_ : Addr) (b : Addr) (cb : ClassId) (qc : Int32) (vf : Value) (c0_ : Int32) (c1_ : Int32) (c2_ : Int32) (c3_ : Int32) (c4_ : Int32) (c5_ : Int32) (h0 : Heap) (n0 : Nat) (Z0 : n0 ≤ h0.size) (E_s : Exa Z h0 s_ "java/lang/String") (F_v : Fld Z h0 s_ "java/lang/String" "value" "[B" (.ref b)) (F_c : Fld Z h0 s_ "java/lang/String" "coder" "B" (.int (0 : Int32))) (V_b : Arv Z h0 b cb .byte (6 : Int32) [(.int c0_), (.int c1_), (.int c2_), (.int c3_), (.int c4_), (.int c5_)] (.int (0 : Int32))) (S_q : Sta Z h0 "java/lang/String" "COMPACT_STRINGS" "Z" (.int qc)) (hq : ¬ qc = 0) (S_f : Sta Z h0 "jdk/internal/util/Preconditions" "SIOOBE_FORMATTER" "Ljava/util/function/BiFunction;" vf) (rvf : vf.isRef = true) :
    OCon l Z (⟨"java/lang/String", "charAt", "(I)C"⟩ : MethodName) jdk_42_method_56_code 2 (some .char) ws ({ frames := 3, cells := 0, slots := 0, locals := 40 } : Room) #[(.ref s_), (.int (0 : Int32))] h0 (Q_rgh6_0 Z s_ b cb qc vf c0_ c1_ c2_ c3_ c4_ c5_ h0 n0) := by
  refine OCon.of (plainFor_of_name pn0) ?_
  intro p e s m below meth c s₁ Φ X0 hx hby hml hown hnm hret hlk hZ e0 hΦ
  have N0 := Fr.nil n0
  refine OGo.st (fun _ kz => castTop (ef_rgh6_0 m s_ (0 : Int32)) kz) ?_
  show OG p e below Φ s₁ m 0 #[rv s_, iv 0] []
  refine OGo.st (fun _ kz => XS.aloadN X0.here hx rfl (hb hby d10_0) rfl rfl kz) ?_
  show OG p e below Φ s₁ m 1 #[rv s_, iv 0] [(.ref s_)]
  obtain ⟨_, T1, L1, X1, hQ1, st1⟩ := own_callVi X0 hx hZ hown (ow49 hw) (ow50 hw) (notFace_of_selects (args := #[]) (mvT hZ (ow52 hw))) (ow52 hw) (ow51 hw) (ow8 hw) (ow53 hw) (by decide) (rgis l Z a0 hw [] s_ qc h0 n0 Z0 F_c S_q hq) e0 (W := 0) (by decide) (by decide) (by decide) (by decide) E_s (pc := 1) (ls := #[rv s_, iv 0]) (stk := [(.ref s_)]) (by rw [hml]; rfl) (argsL := []) (rest := []) (lenOf pd8 rfl) rfl rfl (Nat.le_of_eq rfl) (hb hby d10_1)
  obtain ⟨rfl, Nq1, e1⟩ := hQ1
  have N1 := Fr.app N0 Nq1
  refine OGo.st st1 ?_
  show OG p e below Φ T1 m 4 #[rv s_, iv 0] [(.int 1)]
  refine OGo.st (fun _ kz => XS.ifNo X1.here hx rfl (hb hby d10_4) rfl (XT.i0_eq_f (by decide)) kz) ?_
  show OG p e below Φ T1 m 7 #[rv s_, iv 0] []
  refine OGo.st (fun _ kz => XS.aloadN X1.here hx rfl (hb hby d10_7) rfl rfl kz) ?_
  show OG p e below Φ T1 m 8 #[rv s_, iv 0] [(.ref s_)]
  obtain ⟨T2, X2, e2, st2⟩ := getF X1 hx hZ hown (host := "") (Or.inl (ow32 hw)) Via.refl e1 F_v (g := (mkF m 8 #[rv s_, iv 0] [(.ref s_)])) rfl rfl (hb hby d10_8)
  refine OGo.st st2 ?_
  show OG p e below Φ T2 m 11 #[rv s_, iv 0] [(.ref b)]
  refine OGo.st (fun _ kz => XS.iloadN X2.here hx rfl (hb hby d10_11) rfl kz) ?_
  show OG p e below Φ T2 m 12 #[rv s_, iv 0] [(.int 0), (.ref b)]
  obtain ⟨_, T3, L3, X3, hQ3, st3⟩ := own_callSt X2 hx hZ hown (ow54 hw) (ow55 hw) (ow56 hw) (ow57 hw) (by decide) (rgl6_0 l Z a0 hw [] b cb vf c0_ c1_ c2_ c3_ c4_ c5_ h0 n0 Z0 V_b S_f rvf) e2 (W := 0) (by decide) (by decide) (by decide) (by decide) (pc := 12) (ls := #[rv s_, iv 0]) (stk := [(.int 0), (.ref b)]) (by rw [hml]; rfl) (argsL := [(.ref b), (.int 0)]) (rest := []) (lenOf pd9 rfl) rfl rfl (Nat.le_of_eq rfl) (hb hby d10_12)
  obtain ⟨rfl, Nq3, e3⟩ := hQ3
  have N3 := Fr.app N1 Nq3
  refine OGo.st st3 ?_
  show OG p e below Φ T3 m 15 #[rv s_, iv 0] [(.int ((c0_ &&& (255 : Int32)).toUInt32.toUInt16.toUInt32.toInt32))]
  refine OGo.fin X3 hlk (v := (some (.int ((c0_ &&& (255 : Int32)).toUInt32.toUInt16.toUInt32.toInt32)))) (fun h => by rw [hret] at h; cases h) (by decide) (by decide) (fun fs hr => X3.ireturnOut hx hret (XT.narrow_c _) (by simp) (hb hby d10_15) hr) fun U eU hF => hΦ _ _ _ ?_ hF
  rw [eU, e3]
  show Q_rgh6_0 Z s_ b cb qc vf c0_ c1_ c2_ c3_ c4_ c5_ h0 n0 _ _ _
  exact ⟨rfl, N3, rfl⟩

theorem ef_rgl6_1 (m : MethodId) (x0 : Addr) (x1 : Int32) : entryFrame m #[(.ref x0), (.int x1)] 2 = mkF m 0 #[.val (.ref x0), .val (.int x1)] [] := by first | (simp [entryFrame, mkF, argsToLocals, Value.category]; done) | rfl
def Q_rgl6_1 (Z : State) (b : Addr) (cb : ClassId) (vf : Value) (c0_ : Int32) (c1_ : Int32) (c2_ : Int32) (c3_ : Int32) (c4_ : Int32) (c5_ : Int32) (h0 : Heap) (n0 : Nat) (v : Option Value) (h : Heap) (L : List Loc) : Prop := v = some (.int ((c1_ &&& (255 : Int32)).toUInt32.toUInt16.toUInt32.toInt32)) ∧ Fr n0 L ∧ h = h0
set_option maxRecDepth 65536 in
set_option maxHeartbeats 40000000 in
theorem rgl6_1 (l : Launch) (Z : State) (a0 : Array Value) (hw : ∀ d ∈ tables_1, d.before a0 Z = true) (ws : List Jvm.Cond) (b : Addr) (cb : ClassId) (vf : Value) (c0_ : Int32) (c1_ : Int32) (c2_ : Int32) (c3_ : Int32) (c4_ : Int32) (c5_ : Int32) (h0 : Heap) (n0 : Nat) (Z0 : n0 ≤ h0.size) (V_b : Arv Z h0 b cb .byte (6 : Int32) [(.int c0_), (.int c1_), (.int c2_), (.int c3_), (.int c4_), (.int c5_)] (.int (0 : Int32))) (S_f : Sta Z h0 "jdk/internal/util/Preconditions" "SIOOBE_FORMATTER" "Ljava/util/function/BiFunction;" vf) (rvf : vf.isRef = true) :
    OCon l Z (⟨"java/lang/StringLatin1", "charAt", "([BI)C"⟩ : MethodName) jdk_43_method_2_code 2 (some .char) ws ({ frames := 2, cells := 0, slots := 0, locals := 27 } : Room) #[(.ref b), (.int (1 : Int32))] h0 (Q_rgl6_1 Z b cb vf c0_ c1_ c2_ c3_ c4_ c5_ h0 n0) := by
  refine OCon.of (plainFor_of_name pn5) ?_
  intro p e s m below meth c s₁ Φ X0 hx hby hml hown hnm hret hlk hZ e0 hΦ
  have N0 := Fr.nil n0
  refine OGo.st (fun _ kz => castTop (ef_rgl6_1 m b (1 : Int32)) kz) ?_
  show OG p e below Φ s₁ m 0 #[rv b, iv 1] []
  refine OGo.st (fun _ kz => XS.iloadN X0.here hx rfl (hb hby d12_0) rfl kz) ?_
  show OG p e below Φ s₁ m 1 #[rv b, iv 1] [(.int 1)]
  refine OGo.st (fun _ kz => XS.aloadN X0.here hx rfl (hb hby d12_1) rfl rfl kz) ?_
  show OG p e below Φ s₁ m 2 #[rv b, iv 1] [(.ref b), (.int 1)]
  obtain ⟨cl1, Aq1, -, S1, M1, -, -⟩ := id V_b
  refine OGo.st (fun _ kz => X0.arraylength hx (by rw [e0]; exact Aq1.1) (State.isArrayOf_alike hZ.alike Aq1.2.1) (g := (mkF m 2 #[rv b, iv 1] [(.ref b), (.int 1)])) rfl rfl (hb hby d12_2) _ kz) ?_
  rw [len_of S1 M1]
  show OG p e below Φ s₁ m 3 #[rv b, iv 1] [(.int 6), (.int 1)]
  obtain ⟨_, T2, L2, X2, hQ2, st2⟩ := own_callSt X0 hx hZ hown (ow58 hw) (ow59 hw) (ow8 hw) (ow60 hw) (by decide) (rgci l Z a0 hw [] (1 : Int32) (6 : Int32) vf h0 n0 Z0 (by decide) (by decide) S_f rvf) e0 (W := 0) (by decide) (by decide) (by decide) (by decide) (pc := 3) (ls := #[rv b, iv 1]) (stk := [(.int 6), (.int 1)]) (by rw [hml]; rfl) (argsL := [(.int 1), (.int 6)]) (rest := []) (lenOf pd7 rfl) rfl rfl (Nat.le_of_eq rfl) (hb hby d12_3)
  obtain ⟨rfl, Nq2, e2⟩ := hQ2
  have N2 := Fr.app N0 Nq2
  refine OGo.st st2 ?_
  show OG p e below Φ T2 m 6 #[rv b, iv 1] []
  refine OGo.st (fun _ kz => XS.aloadN X2.here hx rfl (hb hby d12_6) rfl rfl kz) ?_
  show OG p e below Φ T2 m 7 #[rv b, iv 1] [(.ref b)]
  refine OGo.st (fun _ kz => XS.iloadN X2.here hx rfl (hb hby d12_7) rfl kz) ?_
  show OG p e below Φ T2 m 8 #[rv b, iv 1] [(.int 1), (.ref b)]
  obtain ⟨cl3, Aq3, -, S3, M3, H3, -⟩ := id V_b
  have in3 : ¬ ((1 : Int32) < 0 ∨ cl3.slots.size ≤ (1 : Int32).toNatClampNeg) := inb_of S3 ⟨by decide, by decide⟩
  have at3 : cl3.slots[(1 : Int32).toNatClampNeg]? = some (.int c1_) := H3.at in3 rfl
  refine OGo.st (fun _ kz => X2.baloadBytes hx (by rw [e2]; exact Aq3.1) (State.isArrayOf_alike hZ.alike Aq3.2.1) Aq3.2.2 in3 at3 (g := (mkF m 8 #[rv b, iv 1] [(.int 1), (.ref b)])) rfl rfl (hb hby d12_8) _ kz) ?_
  show OG p e below Φ T2 m 9 #[rv b, iv 1] [(.int c1_)]
  refine OGo.st (fun _ kz => XS.sipush X2.here hx rfl (hb hby d12_9) kz) ?_
  show OG p e below Φ T2 m 12 #[rv b, iv 1] [(.int 255), (.int c1_)]
  refine OGo.st (fun _ kz => XS.iand X2.here hx rfl (hb hby d12_12) rfl kz) ?_
  show OG p e below Φ T2 m 13 #[rv b, iv 1] [(.int (c1_ &&& (255 : Int32)))]
  refine OGo.st (fun _ kz => XT.i2c X2.here hx rfl (hb hby d12_13) rfl kz) ?_
  show OG p e below Φ T2 m 14 #[rv b, iv 1] [(.int ((c1_ &&& (255 : Int32)).toUInt32.toUInt16.toUInt32.toInt32))]
  refine OGo.fin X2 hlk (v := (some (.int ((c1_ &&& (255 : Int32)).toUInt32.toUInt16.toUInt32.toInt32)))) (fun h => by rw [hret] at h; cases h) (by decide) (by decide) (fun fs hr => X2.ireturnOut hx hret (XT.narrow_c _) (by simp) (hb hby d12_14) hr) fun U eU hF => hΦ _ _ _ ?_ hF
  rw [eU, e2]
  show Q_rgl6_1 Z b cb vf c0_ c1_ c2_ c3_ c4_ c5_ h0 n0 _ _ _
  exact ⟨rfl, N2, rfl⟩

theorem ef_rgh6_1 (m : MethodId) (x0 : Addr) (x1 : Int32) : entryFrame m #[(.ref x0), (.int x1)] 2 = mkF m 0 #[.val (.ref x0), .val (.int x1)] [] := by first | (simp [entryFrame, mkF, argsToLocals, Value.category]; done) | rfl
def Q_rgh6_1 (Z : State) (s_ : Addr) (b : Addr) (cb : ClassId) (qc : Int32) (vf : Value) (c0_ : Int32) (c1_ : Int32) (c2_ : Int32) (c3_ : Int32) (c4_ : Int32) (c5_ : Int32) (h0 : Heap) (n0 : Nat) (v : Option Value) (h : Heap) (L : List Loc) : Prop := v = some (.int ((c1_ &&& (255 : Int32)).toUInt32.toUInt16.toUInt32.toInt32)) ∧ Fr n0 L ∧ h = h0
set_option maxRecDepth 65536 in
set_option maxHeartbeats 40000000 in
theorem rgh6_1 (l : Launch) (Z : State) (a0 : Array Value) (hw : ∀ d ∈ tables_1, d.before a0 Z = true) (ws : List Jvm.Cond) (s_ : Addr) (b : Addr) (cb : ClassId) (qc : Int32) (vf : Value) (c0_ : Int32) (c1_ : Int32) (c2_ : Int32) (c3_ : Int32) (c4_ : Int32) (c5_ : Int32) (h0 : Heap) (n0 : Nat) (Z0 : n0 ≤ h0.size) (E_s : Exa Z h0 s_ "java/lang/String") (F_v : Fld Z h0 s_ "java/lang/String" "value" "[B" (.ref b)) (F_c : Fld Z h0 s_ "java/lang/String" "coder" "B" (.int (0 : Int32))) (V_b : Arv Z h0 b cb .byte (6 : Int32) [(.int c0_), (.int c1_), (.int c2_), (.int c3_), (.int c4_), (.int c5_)] (.int (0 : Int32))) (S_q : Sta Z h0 "java/lang/String" "COMPACT_STRINGS" "Z" (.int qc)) (hq : ¬ qc = 0) (S_f : Sta Z h0 "jdk/internal/util/Preconditions" "SIOOBE_FORMATTER" "Ljava/util/function/BiFunction;" vf) (rvf : vf.isRef = true) :
    OCon l Z (⟨"java/lang/String", "charAt", "(I)C"⟩ : MethodName) jdk_42_method_56_code 2 (some .char) ws ({ frames := 3, cells := 0, slots := 0, locals := 40 } : Room) #[(.ref s_), (.int (1 : Int32))] h0 (Q_rgh6_1 Z s_ b cb qc vf c0_ c1_ c2_ c3_ c4_ c5_ h0 n0) := by
  refine OCon.of (plainFor_of_name pn0) ?_
  intro p e s m below meth c s₁ Φ X0 hx hby hml hown hnm hret hlk hZ e0 hΦ
  have N0 := Fr.nil n0
  refine OGo.st (fun _ kz => castTop (ef_rgh6_1 m s_ (1 : Int32)) kz) ?_
  show OG p e below Φ s₁ m 0 #[rv s_, iv 1] []
  refine OGo.st (fun _ kz => XS.aloadN X0.here hx rfl (hb hby d10_0) rfl rfl kz) ?_
  show OG p e below Φ s₁ m 1 #[rv s_, iv 1] [(.ref s_)]
  obtain ⟨_, T1, L1, X1, hQ1, st1⟩ := own_callVi X0 hx hZ hown (ow49 hw) (ow50 hw) (notFace_of_selects (args := #[]) (mvT hZ (ow52 hw))) (ow52 hw) (ow51 hw) (ow8 hw) (ow53 hw) (by decide) (rgis l Z a0 hw [] s_ qc h0 n0 Z0 F_c S_q hq) e0 (W := 0) (by decide) (by decide) (by decide) (by decide) E_s (pc := 1) (ls := #[rv s_, iv 1]) (stk := [(.ref s_)]) (by rw [hml]; rfl) (argsL := []) (rest := []) (lenOf pd8 rfl) rfl rfl (Nat.le_of_eq rfl) (hb hby d10_1)
  obtain ⟨rfl, Nq1, e1⟩ := hQ1
  have N1 := Fr.app N0 Nq1
  refine OGo.st st1 ?_
  show OG p e below Φ T1 m 4 #[rv s_, iv 1] [(.int 1)]
  refine OGo.st (fun _ kz => XS.ifNo X1.here hx rfl (hb hby d10_4) rfl (XT.i0_eq_f (by decide)) kz) ?_
  show OG p e below Φ T1 m 7 #[rv s_, iv 1] []
  refine OGo.st (fun _ kz => XS.aloadN X1.here hx rfl (hb hby d10_7) rfl rfl kz) ?_
  show OG p e below Φ T1 m 8 #[rv s_, iv 1] [(.ref s_)]
  obtain ⟨T2, X2, e2, st2⟩ := getF X1 hx hZ hown (host := "") (Or.inl (ow32 hw)) Via.refl e1 F_v (g := (mkF m 8 #[rv s_, iv 1] [(.ref s_)])) rfl rfl (hb hby d10_8)
  refine OGo.st st2 ?_
  show OG p e below Φ T2 m 11 #[rv s_, iv 1] [(.ref b)]
  refine OGo.st (fun _ kz => XS.iloadN X2.here hx rfl (hb hby d10_11) rfl kz) ?_
  show OG p e below Φ T2 m 12 #[rv s_, iv 1] [(.int 1), (.ref b)]
  obtain ⟨_, T3, L3, X3, hQ3, st3⟩ := own_callSt X2 hx hZ hown (ow54 hw) (ow55 hw) (ow56 hw) (ow57 hw) (by decide) (rgl6_1 l Z a0 hw [] b cb vf c0_ c1_ c2_ c3_ c4_ c5_ h0 n0 Z0 V_b S_f rvf) e2 (W := 0) (by decide) (by decide) (by decide) (by decide) (pc := 12) (ls := #[rv s_, iv 1]) (stk := [(.int 1), (.ref b)]) (by rw [hml]; rfl) (argsL := [(.ref b), (.int 1)]) (rest := []) (lenOf pd9 rfl) rfl rfl (Nat.le_of_eq rfl) (hb hby d10_12)
  obtain ⟨rfl, Nq3, e3⟩ := hQ3
  have N3 := Fr.app N1 Nq3
  refine OGo.st st3 ?_
  show OG p e below Φ T3 m 15 #[rv s_, iv 1] [(.int ((c1_ &&& (255 : Int32)).toUInt32.toUInt16.toUInt32.toInt32))]
  refine OGo.fin X3 hlk (v := (some (.int ((c1_ &&& (255 : Int32)).toUInt32.toUInt16.toUInt32.toInt32)))) (fun h => by rw [hret] at h; cases h) (by decide) (by decide) (fun fs hr => X3.ireturnOut hx hret (XT.narrow_c _) (by simp) (hb hby d10_15) hr) fun U eU hF => hΦ _ _ _ ?_ hF
  rw [eU, e3]
  show Q_rgh6_1 Z s_ b cb qc vf c0_ c1_ c2_ c3_ c4_ c5_ h0 n0 _ _ _
  exact ⟨rfl, N3, rfl⟩

theorem ef_rgl6_2 (m : MethodId) (x0 : Addr) (x1 : Int32) : entryFrame m #[(.ref x0), (.int x1)] 2 = mkF m 0 #[.val (.ref x0), .val (.int x1)] [] := by first | (simp [entryFrame, mkF, argsToLocals, Value.category]; done) | rfl
def Q_rgl6_2 (Z : State) (b : Addr) (cb : ClassId) (vf : Value) (c0_ : Int32) (c1_ : Int32) (c2_ : Int32) (c3_ : Int32) (c4_ : Int32) (c5_ : Int32) (h0 : Heap) (n0 : Nat) (v : Option Value) (h : Heap) (L : List Loc) : Prop := v = some (.int ((c2_ &&& (255 : Int32)).toUInt32.toUInt16.toUInt32.toInt32)) ∧ Fr n0 L ∧ h = h0
set_option maxRecDepth 65536 in
set_option maxHeartbeats 40000000 in
theorem rgl6_2 (l : Launch) (Z : State) (a0 : Array Value) (hw : ∀ d ∈ tables_1, d.before a0 Z = true) (ws : List Jvm.Cond) (b : Addr) (cb : ClassId) (vf : Value) (c0_ : Int32) (c1_ : Int32) (c2_ : Int32) (c3_ : Int32) (c4_ : Int32) (c5_ : Int32) (h0 : Heap) (n0 : Nat) (Z0 : n0 ≤ h0.size) (V_b : Arv Z h0 b cb .byte (6 : Int32) [(.int c0_), (.int c1_), (.int c2_), (.int c3_), (.int c4_), (.int c5_)] (.int (0 : Int32))) (S_f : Sta Z h0 "jdk/internal/util/Preconditions" "SIOOBE_FORMATTER" "Ljava/util/function/BiFunction;" vf) (rvf : vf.isRef = true) :
    OCon l Z (⟨"java/lang/StringLatin1", "charAt", "([BI)C"⟩ : MethodName) jdk_43_method_2_code 2 (some .char) ws ({ frames := 2, cells := 0, slots := 0, locals := 27 } : Room) #[(.ref b), (.int (2 : Int32))] h0 (Q_rgl6_2 Z b cb vf c0_ c1_ c2_ c3_ c4_ c5_ h0 n0) := by
  refine OCon.of (plainFor_of_name pn5) ?_
  intro p e s m below meth c s₁ Φ X0 hx hby hml hown hnm hret hlk hZ e0 hΦ
  have N0 := Fr.nil n0
  refine OGo.st (fun _ kz => castTop (ef_rgl6_2 m b (2 : Int32)) kz) ?_
  show OG p e below Φ s₁ m 0 #[rv b, iv 2] []
  refine OGo.st (fun _ kz => XS.iloadN X0.here hx rfl (hb hby d12_0) rfl kz) ?_
  show OG p e below Φ s₁ m 1 #[rv b, iv 2] [(.int 2)]
  refine OGo.st (fun _ kz => XS.aloadN X0.here hx rfl (hb hby d12_1) rfl rfl kz) ?_
  show OG p e below Φ s₁ m 2 #[rv b, iv 2] [(.ref b), (.int 2)]
  obtain ⟨cl1, Aq1, -, S1, M1, -, -⟩ := id V_b
  refine OGo.st (fun _ kz => X0.arraylength hx (by rw [e0]; exact Aq1.1) (State.isArrayOf_alike hZ.alike Aq1.2.1) (g := (mkF m 2 #[rv b, iv 2] [(.ref b), (.int 2)])) rfl rfl (hb hby d12_2) _ kz) ?_
  rw [len_of S1 M1]
  show OG p e below Φ s₁ m 3 #[rv b, iv 2] [(.int 6), (.int 2)]
  obtain ⟨_, T2, L2, X2, hQ2, st2⟩ := own_callSt X0 hx hZ hown (ow58 hw) (ow59 hw) (ow8 hw) (ow60 hw) (by decide) (rgci l Z a0 hw [] (2 : Int32) (6 : Int32) vf h0 n0 Z0 (by decide) (by decide) S_f rvf) e0 (W := 0) (by decide) (by decide) (by decide) (by decide) (pc := 3) (ls := #[rv b, iv 2]) (stk := [(.int 6), (.int 2)]) (by rw [hml]; rfl) (argsL := [(.int 2), (.int 6)]) (rest := []) (lenOf pd7 rfl) rfl rfl (Nat.le_of_eq rfl) (hb hby d12_3)
  obtain ⟨rfl, Nq2, e2⟩ := hQ2
  have N2 := Fr.app N0 Nq2
  refine OGo.st st2 ?_
  show OG p e below Φ T2 m 6 #[rv b, iv 2] []
  refine OGo.st (fun _ kz => XS.aloadN X2.here hx rfl (hb hby d12_6) rfl rfl kz) ?_
  show OG p e below Φ T2 m 7 #[rv b, iv 2] [(.ref b)]
  refine OGo.st (fun _ kz => XS.iloadN X2.here hx rfl (hb hby d12_7) rfl kz) ?_
  show OG p e below Φ T2 m 8 #[rv b, iv 2] [(.int 2), (.ref b)]
  obtain ⟨cl3, Aq3, -, S3, M3, H3, -⟩ := id V_b
  have in3 : ¬ ((2 : Int32) < 0 ∨ cl3.slots.size ≤ (2 : Int32).toNatClampNeg) := inb_of S3 ⟨by decide, by decide⟩
  have at3 : cl3.slots[(2 : Int32).toNatClampNeg]? = some (.int c2_) := H3.at in3 rfl
  refine OGo.st (fun _ kz => X2.baloadBytes hx (by rw [e2]; exact Aq3.1) (State.isArrayOf_alike hZ.alike Aq3.2.1) Aq3.2.2 in3 at3 (g := (mkF m 8 #[rv b, iv 2] [(.int 2), (.ref b)])) rfl rfl (hb hby d12_8) _ kz) ?_
  show OG p e below Φ T2 m 9 #[rv b, iv 2] [(.int c2_)]
  refine OGo.st (fun _ kz => XS.sipush X2.here hx rfl (hb hby d12_9) kz) ?_
  show OG p e below Φ T2 m 12 #[rv b, iv 2] [(.int 255), (.int c2_)]
  refine OGo.st (fun _ kz => XS.iand X2.here hx rfl (hb hby d12_12) rfl kz) ?_
  show OG p e below Φ T2 m 13 #[rv b, iv 2] [(.int (c2_ &&& (255 : Int32)))]
  refine OGo.st (fun _ kz => XT.i2c X2.here hx rfl (hb hby d12_13) rfl kz) ?_
  show OG p e below Φ T2 m 14 #[rv b, iv 2] [(.int ((c2_ &&& (255 : Int32)).toUInt32.toUInt16.toUInt32.toInt32))]
  refine OGo.fin X2 hlk (v := (some (.int ((c2_ &&& (255 : Int32)).toUInt32.toUInt16.toUInt32.toInt32)))) (fun h => by rw [hret] at h; cases h) (by decide) (by decide) (fun fs hr => X2.ireturnOut hx hret (XT.narrow_c _) (by simp) (hb hby d12_14) hr) fun U eU hF => hΦ _ _ _ ?_ hF
  rw [eU, e2]
  show Q_rgl6_2 Z b cb vf c0_ c1_ c2_ c3_ c4_ c5_ h0 n0 _ _ _
  exact ⟨rfl, N2, rfl⟩

theorem ef_rgh6_2 (m : MethodId) (x0 : Addr) (x1 : Int32) : entryFrame m #[(.ref x0), (.int x1)] 2 = mkF m 0 #[.val (.ref x0), .val (.int x1)] [] := by first | (simp [entryFrame, mkF, argsToLocals, Value.category]; done) | rfl
def Q_rgh6_2 (Z : State) (s_ : Addr) (b : Addr) (cb : ClassId) (qc : Int32) (vf : Value) (c0_ : Int32) (c1_ : Int32) (c2_ : Int32) (c3_ : Int32) (c4_ : Int32) (c5_ : Int32) (h0 : Heap) (n0 : Nat) (v : Option Value) (h : Heap) (L : List Loc) : Prop := v = some (.int ((c2_ &&& (255 : Int32)).toUInt32.toUInt16.toUInt32.toInt32)) ∧ Fr n0 L ∧ h = h0
set_option maxRecDepth 65536 in
set_option maxHeartbeats 40000000 in
theorem rgh6_2 (l : Launch) (Z : State) (a0 : Array Value) (hw : ∀ d ∈ tables_1, d.before a0 Z = true) (ws : List Jvm.Cond) (s_ : Addr) (b : Addr) (cb : ClassId) (qc : Int32) (vf : Value) (c0_ : Int32) (c1_ : Int32) (c2_ : Int32) (c3_ : Int32) (c4_ : Int32) (c5_ : Int32) (h0 : Heap) (n0 : Nat) (Z0 : n0 ≤ h0.size) (E_s : Exa Z h0 s_ "java/lang/String") (F_v : Fld Z h0 s_ "java/lang/String" "value" "[B" (.ref b)) (F_c : Fld Z h0 s_ "java/lang/String" "coder" "B" (.int (0 : Int32))) (V_b : Arv Z h0 b cb .byte (6 : Int32) [(.int c0_), (.int c1_), (.int c2_), (.int c3_), (.int c4_), (.int c5_)] (.int (0 : Int32))) (S_q : Sta Z h0 "java/lang/String" "COMPACT_STRINGS" "Z" (.int qc)) (hq : ¬ qc = 0) (S_f : Sta Z h0 "jdk/internal/util/Preconditions" "SIOOBE_FORMATTER" "Ljava/util/function/BiFunction;" vf) (rvf : vf.isRef = true) :
    OCon l Z (⟨"java/lang/String", "charAt", "(I)C"⟩ : MethodName) jdk_42_method_56_code 2 (some .char) ws ({ frames := 3, cells := 0, slots := 0, locals := 40 } : Room) #[(.ref s_), (.int (2 : Int32))] h0 (Q_rgh6_2 Z s_ b cb qc vf c0_ c1_ c2_ c3_ c4_ c5_ h0 n0) := by
  refine OCon.of (plainFor_of_name pn0) ?_
  intro p e s m below meth c s₁ Φ X0 hx hby hml hown hnm hret hlk hZ e0 hΦ
  have N0 := Fr.nil n0
  refine OGo.st (fun _ kz => castTop (ef_rgh6_2 m s_ (2 : Int32)) kz) ?_
  show OG p e below Φ s₁ m 0 #[rv s_, iv 2] []
  refine OGo.st (fun _ kz => XS.aloadN X0.here hx rfl (hb hby d10_0) rfl rfl kz) ?_
  show OG p e below Φ s₁ m 1 #[rv s_, iv 2] [(.ref s_)]
  obtain ⟨_, T1, L1, X1, hQ1, st1⟩ := own_callVi X0 hx hZ hown (ow49 hw) (ow50 hw) (notFace_of_selects (args := #[]) (mvT hZ (ow52 hw))) (ow52 hw) (ow51 hw) (ow8 hw) (ow53 hw) (by decide) (rgis l Z a0 hw [] s_ qc h0 n0 Z0 F_c S_q hq) e0 (W := 0) (by decide) (by decide) (by decide) (by decide) E_s (pc := 1) (ls := #[rv s_, iv 2]) (stk := [(.ref s_)]) (by rw [hml]; rfl) (argsL := []) (rest := []) (lenOf pd8 rfl) rfl rfl (Nat.le_of_eq rfl) (hb hby d10_1)
  obtain ⟨rfl, Nq1, e1⟩ := hQ1
  have N1 := Fr.app N0 Nq1
  refine OGo.st st1 ?_
  show OG p e below Φ T1 m 4 #[rv s_, iv 2] [(.int 1)]
  refine OGo.st (fun _ kz => XS.ifNo X1.here hx rfl (hb hby d10_4) rfl (XT.i0_eq_f (by decide)) kz) ?_
  show OG p e below Φ T1 m 7 #[rv s_, iv 2] []
  refine OGo.st (fun _ kz => XS.aloadN X1.here hx rfl (hb hby d10_7) rfl rfl kz) ?_
  show OG p e below Φ T1 m 8 #[rv s_, iv 2] [(.ref s_)]
  obtain ⟨T2, X2, e2, st2⟩ := getF X1 hx hZ hown (host := "") (Or.inl (ow32 hw)) Via.refl e1 F_v (g := (mkF m 8 #[rv s_, iv 2] [(.ref s_)])) rfl rfl (hb hby d10_8)
  refine OGo.st st2 ?_
  show OG p e below Φ T2 m 11 #[rv s_, iv 2] [(.ref b)]
  refine OGo.st (fun _ kz => XS.iloadN X2.here hx rfl (hb hby d10_11) rfl kz) ?_
  show OG p e below Φ T2 m 12 #[rv s_, iv 2] [(.int 2), (.ref b)]
  obtain ⟨_, T3, L3, X3, hQ3, st3⟩ := own_callSt X2 hx hZ hown (ow54 hw) (ow55 hw) (ow56 hw) (ow57 hw) (by decide) (rgl6_2 l Z a0 hw [] b cb vf c0_ c1_ c2_ c3_ c4_ c5_ h0 n0 Z0 V_b S_f rvf) e2 (W := 0) (by decide) (by decide) (by decide) (by decide) (pc := 12) (ls := #[rv s_, iv 2]) (stk := [(.int 2), (.ref b)]) (by rw [hml]; rfl) (argsL := [(.ref b), (.int 2)]) (rest := []) (lenOf pd9 rfl) rfl rfl (Nat.le_of_eq rfl) (hb hby d10_12)
  obtain ⟨rfl, Nq3, e3⟩ := hQ3
  have N3 := Fr.app N1 Nq3
  refine OGo.st st3 ?_
  show OG p e below Φ T3 m 15 #[rv s_, iv 2] [(.int ((c2_ &&& (255 : Int32)).toUInt32.toUInt16.toUInt32.toInt32))]
  refine OGo.fin X3 hlk (v := (some (.int ((c2_ &&& (255 : Int32)).toUInt32.toUInt16.toUInt32.toInt32)))) (fun h => by rw [hret] at h; cases h) (by decide) (by decide) (fun fs hr => X3.ireturnOut hx hret (XT.narrow_c _) (by simp) (hb hby d10_15) hr) fun U eU hF => hΦ _ _ _ ?_ hF
  rw [eU, e3]
  show Q_rgh6_2 Z s_ b cb qc vf c0_ c1_ c2_ c3_ c4_ c5_ h0 n0 _ _ _
  exact ⟨rfl, N3, rfl⟩

theorem ef_rgl6_3 (m : MethodId) (x0 : Addr) (x1 : Int32) : entryFrame m #[(.ref x0), (.int x1)] 2 = mkF m 0 #[.val (.ref x0), .val (.int x1)] [] := by first | (simp [entryFrame, mkF, argsToLocals, Value.category]; done) | rfl
def Q_rgl6_3 (Z : State) (b : Addr) (cb : ClassId) (vf : Value) (c0_ : Int32) (c1_ : Int32) (c2_ : Int32) (c3_ : Int32) (c4_ : Int32) (c5_ : Int32) (h0 : Heap) (n0 : Nat) (v : Option Value) (h : Heap) (L : List Loc) : Prop := v = some (.int ((c3_ &&& (255 : Int32)).toUInt32.toUInt16.toUInt32.toInt32)) ∧ Fr n0 L ∧ h = h0
set_option maxRecDepth 65536 in
set_option maxHeartbeats 40000000 in
theorem rgl6_3 (l : Launch) (Z : State) (a0 : Array Value) (hw : ∀ d ∈ tables_1, d.before a0 Z = true) (ws : List Jvm.Cond) (b : Addr) (cb : ClassId) (vf : Value) (c0_ : Int32) (c1_ : Int32) (c2_ : Int32) (c3_ : Int32) (c4_ : Int32) (c5_ : Int32) (h0 : Heap) (n0 : Nat) (Z0 : n0 ≤ h0.size) (V_b : Arv Z h0 b cb .byte (6 : Int32) [(.int c0_), (.int c1_), (.int c2_), (.int c3_), (.int c4_), (.int c5_)] (.int (0 : Int32))) (S_f : Sta Z h0 "jdk/internal/util/Preconditions" "SIOOBE_FORMATTER" "Ljava/util/function/BiFunction;" vf) (rvf : vf.isRef = true) :
    OCon l Z (⟨"java/lang/StringLatin1", "charAt", "([BI)C"⟩ : MethodName) jdk_43_method_2_code 2 (some .char) ws ({ frames := 2, cells := 0, slots := 0, locals := 27 } : Room) #[(.ref b), (.int (3 : Int32))] h0 (Q_rgl6_3 Z b cb vf c0_ c1_ c2_ c3_ c4_ c5_ h0 n0) := by
  refine OCon.of (plainFor_of_name pn5) ?_
  intro p e s m below meth c s₁ Φ X0 hx hby hml hown hnm hret hlk hZ e0 hΦ
  have N0 := Fr.nil n0
  refine OGo.st (fun _ kz => castTop (ef_rgl6_3 m b (3 : Int32)) kz) ?_
  show OG p e below Φ s₁ m 0 #[rv b, iv 3] []
  refine OGo.st (fun _ kz => XS.iloadN X0.here hx rfl (hb hby d12_0) rfl kz) ?_
  show OG p e below Φ s₁ m 1 #[rv b, iv 3] [(.int 3)]
  refine OGo.st (fun _ kz => XS.aloadN X0.here hx rfl (hb hby d12_1) rfl rfl kz) ?_
  show OG p e below Φ s₁ m 2 #[rv b, iv 3] [(.ref b), (.int 3)]
  obtain ⟨cl1, Aq1, -, S1, M1, -, -⟩ := id V_b
  refine OGo.st (fun _ kz => X0.arraylength hx (by rw [e0]; exact Aq1.1) (State.isArrayOf_alike hZ.alike Aq1.2.1) (g := (mkF m 2 #[rv b, iv 3] [(.ref b), (.int 3)])) rfl rfl (hb hby d12_2) _ kz) ?_
  rw [len_of S1 M1]
  show OG p e below Φ s₁ m 3 #[rv b, iv 3] [(.int 6), (.int 3)]
  obtain ⟨_, T2, L2, X2, hQ2, st2⟩ := own_callSt X0 hx hZ hown (ow58 hw) (ow59 hw) (ow8 hw) (ow60 hw) (by decide) (rgci l Z a0 hw [] (3 : Int32) (6 : Int32) vf h0 n0 Z0 (by decide) (by decide) S_f rvf) e0 (W := 0) (by decide) (by decide) (by decide) (by decide) (pc := 3) (ls := #[rv b, iv 3]) (stk := [(.int 6), (.int 3)]) (by rw [hml]; rfl) (argsL := [(.int 3), (.int 6)]) (rest := []) (lenOf pd7 rfl) rfl rfl (Nat.le_of_eq rfl) (hb hby d12_3)
  obtain ⟨rfl, Nq2, e2⟩ := hQ2
  have N2 := Fr.app N0 Nq2
  refine OGo.st st2 ?_
  show OG p e below Φ T2 m 6 #[rv b, iv 3] []
  refine OGo.st (fun _ kz => XS.aloadN X2.here hx rfl (hb hby d12_6) rfl rfl kz) ?_
  show OG p e below Φ T2 m 7 #[rv b, iv 3] [(.ref b)]
  refine OGo.st (fun _ kz => XS.iloadN X2.here hx rfl (hb hby d12_7) rfl kz) ?_
  show OG p e below Φ T2 m 8 #[rv b, iv 3] [(.int 3), (.ref b)]
  obtain ⟨cl3, Aq3, -, S3, M3, H3, -⟩ := id V_b
  have in3 : ¬ ((3 : Int32) < 0 ∨ cl3.slots.size ≤ (3 : Int32).toNatClampNeg) := inb_of S3 ⟨by decide, by decide⟩
  have at3 : cl3.slots[(3 : Int32).toNatClampNeg]? = some (.int c3_) := H3.at in3 rfl
  refine OGo.st (fun _ kz => X2.baloadBytes hx (by rw [e2]; exact Aq3.1) (State.isArrayOf_alike hZ.alike Aq3.2.1) Aq3.2.2 in3 at3 (g := (mkF m 8 #[rv b, iv 3] [(.int 3), (.ref b)])) rfl rfl (hb hby d12_8) _ kz) ?_
  show OG p e below Φ T2 m 9 #[rv b, iv 3] [(.int c3_)]
  refine OGo.st (fun _ kz => XS.sipush X2.here hx rfl (hb hby d12_9) kz) ?_
  show OG p e below Φ T2 m 12 #[rv b, iv 3] [(.int 255), (.int c3_)]
  refine OGo.st (fun _ kz => XS.iand X2.here hx rfl (hb hby d12_12) rfl kz) ?_
  show OG p e below Φ T2 m 13 #[rv b, iv 3] [(.int (c3_ &&& (255 : Int32)))]
  refine OGo.st (fun _ kz => XT.i2c X2.here hx rfl (hb hby d12_13) rfl kz) ?_
  show OG p e below Φ T2 m 14 #[rv b, iv 3] [(.int ((c3_ &&& (255 : Int32)).toUInt32.toUInt16.toUInt32.toInt32))]
  refine OGo.fin X2 hlk (v := (some (.int ((c3_ &&& (255 : Int32)).toUInt32.toUInt16.toUInt32.toInt32)))) (fun h => by rw [hret] at h; cases h) (by decide) (by decide) (fun fs hr => X2.ireturnOut hx hret (XT.narrow_c _) (by simp) (hb hby d12_14) hr) fun U eU hF => hΦ _ _ _ ?_ hF
  rw [eU, e2]
  show Q_rgl6_3 Z b cb vf c0_ c1_ c2_ c3_ c4_ c5_ h0 n0 _ _ _
  exact ⟨rfl, N2, rfl⟩

theorem ef_rgh6_3 (m : MethodId) (x0 : Addr) (x1 : Int32) : entryFrame m #[(.ref x0), (.int x1)] 2 = mkF m 0 #[.val (.ref x0), .val (.int x1)] [] := by first | (simp [entryFrame, mkF, argsToLocals, Value.category]; done) | rfl
def Q_rgh6_3 (Z : State) (s_ : Addr) (b : Addr) (cb : ClassId) (qc : Int32) (vf : Value) (c0_ : Int32) (c1_ : Int32) (c2_ : Int32) (c3_ : Int32) (c4_ : Int32) (c5_ : Int32) (h0 : Heap) (n0 : Nat) (v : Option Value) (h : Heap) (L : List Loc) : Prop := v = some (.int ((c3_ &&& (255 : Int32)).toUInt32.toUInt16.toUInt32.toInt32)) ∧ Fr n0 L ∧ h = h0
set_option maxRecDepth 65536 in
set_option maxHeartbeats 40000000 in
theorem rgh6_3 (l : Launch) (Z : State) (a0 : Array Value) (hw : ∀ d ∈ tables_1, d.before a0 Z = true) (ws : List Jvm.Cond) (s_ : Addr) (b : Addr) (cb : ClassId) (qc : Int32) (vf : Value) (c0_ : Int32) (c1_ : Int32) (c2_ : Int32) (c3_ : Int32) (c4_ : Int32) (c5_ : Int32) (h0 : Heap) (n0 : Nat) (Z0 : n0 ≤ h0.size) (E_s : Exa Z h0 s_ "java/lang/String") (F_v : Fld Z h0 s_ "java/lang/String" "value" "[B" (.ref b)) (F_c : Fld Z h0 s_ "java/lang/String" "coder" "B" (.int (0 : Int32))) (V_b : Arv Z h0 b cb .byte (6 : Int32) [(.int c0_), (.int c1_), (.int c2_), (.int c3_), (.int c4_), (.int c5_)] (.int (0 : Int32))) (S_q : Sta Z h0 "java/lang/String" "COMPACT_STRINGS" "Z" (.int qc)) (hq : ¬ qc = 0) (S_f : Sta Z h0 "jdk/internal/util/Preconditions" "SIOOBE_FORMATTER" "Ljava/util/function/BiFunction;" vf) (rvf : vf.isRef = true) :
    OCon l Z (⟨"java/lang/String", "charAt", "(I)C"⟩ : MethodName) jdk_42_method_56_code 2 (some .char) ws ({ frames := 3, cells := 0, slots := 0, locals := 40 } : Room) #[(.ref s_), (.int (3 : Int32))] h0 (Q_rgh6_3 Z s_ b cb qc vf c0_ c1_ c2_ c3_ c4_ c5_ h0 n0) := by
  refine OCon.of (plainFor_of_name pn0) ?_
  intro p e s m below meth c s₁ Φ X0 hx hby hml hown hnm hret hlk hZ e0 hΦ
  have N0 := Fr.nil n0
  refine OGo.st (fun _ kz => castTop (ef_rgh6_3 m s_ (3 : Int32)) kz) ?_
  show OG p e below Φ s₁ m 0 #[rv s_, iv 3] []
  refine OGo.st (fun _ kz => XS.aloadN X0.here hx rfl (hb hby d10_0) rfl rfl kz) ?_
  show OG p e below Φ s₁ m 1 #[rv s_, iv 3] [(.ref s_)]
  obtain ⟨_, T1, L1, X1, hQ1, st1⟩ := own_callVi X0 hx hZ hown (ow49 hw) (ow50 hw) (notFace_of_selects (args := #[]) (mvT hZ (ow52 hw))) (ow52 hw) (ow51 hw) (ow8 hw) (ow53 hw) (by decide) (rgis l Z a0 hw [] s_ qc h0 n0 Z0 F_c S_q hq) e0 (W := 0) (by decide) (by decide) (by decide) (by decide) E_s (pc := 1) (ls := #[rv s_, iv 3]) (stk := [(.ref s_)]) (by rw [hml]; rfl) (argsL := []) (rest := []) (lenOf pd8 rfl) rfl rfl (Nat.le_of_eq rfl) (hb hby d10_1)
  obtain ⟨rfl, Nq1, e1⟩ := hQ1
  have N1 := Fr.app N0 Nq1
  refine OGo.st st1 ?_
  show OG p e below Φ T1 m 4 #[rv s_, iv 3] [(.int 1)]
  refine OGo.st (fun _ kz => XS.ifNo X1.here hx rfl (hb hby d10_4) rfl (XT.i0_eq_f (by decide)) kz) ?_
  show OG p e below Φ T1 m 7 #[rv s_, iv 3] []
  refine OGo.st (fun _ kz => XS.aloadN X1.here hx rfl (hb hby d10_7) rfl rfl kz) ?_
  show OG p e below Φ T1 m 8 #[rv s_, iv 3] [(.ref s_)]
  obtain ⟨T2, X2, e2, st2⟩ := getF X1 hx hZ hown (host := "") (Or.inl (ow32 hw)) Via.refl e1 F_v (g := (mkF m 8 #[rv s_, iv 3] [(.ref s_)])) rfl rfl (hb hby d10_8)
  refine OGo.st st2 ?_
  show OG p e below Φ T2 m 11 #[rv s_, iv 3] [(.ref b)]
  refine OGo.st (fun _ kz => XS.iloadN X2.here hx rfl (hb hby d10_11) rfl kz) ?_
  show OG p e below Φ T2 m 12 #[rv s_, iv 3] [(.int 3), (.ref b)]
  obtain ⟨_, T3, L3, X3, hQ3, st3⟩ := own_callSt X2 hx hZ hown (ow54 hw) (ow55 hw) (ow56 hw) (ow57 hw) (by decide) (rgl6_3 l Z a0 hw [] b cb vf c0_ c1_ c2_ c3_ c4_ c5_ h0 n0 Z0 V_b S_f rvf) e2 (W := 0) (by decide) (by decide) (by decide) (by decide) (pc := 12) (ls := #[rv s_, iv 3]) (stk := [(.int 3), (.ref b)]) (by rw [hml]; rfl) (argsL := [(.ref b), (.int 3)]) (rest := []) (lenOf pd9 rfl) rfl rfl (Nat.le_of_eq rfl) (hb hby d10_12)
  obtain ⟨rfl, Nq3, e3⟩ := hQ3
  have N3 := Fr.app N1 Nq3
  refine OGo.st st3 ?_
  show OG p e below Φ T3 m 15 #[rv s_, iv 3] [(.int ((c3_ &&& (255 : Int32)).toUInt32.toUInt16.toUInt32.toInt32))]
  refine OGo.fin X3 hlk (v := (some (.int ((c3_ &&& (255 : Int32)).toUInt32.toUInt16.toUInt32.toInt32)))) (fun h => by rw [hret] at h; cases h) (by decide) (by decide) (fun fs hr => X3.ireturnOut hx hret (XT.narrow_c _) (by simp) (hb hby d10_15) hr) fun U eU hF => hΦ _ _ _ ?_ hF
  rw [eU, e3]
  show Q_rgh6_3 Z s_ b cb qc vf c0_ c1_ c2_ c3_ c4_ c5_ h0 n0 _ _ _
  exact ⟨rfl, N3, rfl⟩

theorem ef_rgl6_4 (m : MethodId) (x0 : Addr) (x1 : Int32) : entryFrame m #[(.ref x0), (.int x1)] 2 = mkF m 0 #[.val (.ref x0), .val (.int x1)] [] := by first | (simp [entryFrame, mkF, argsToLocals, Value.category]; done) | rfl
def Q_rgl6_4 (Z : State) (b : Addr) (cb : ClassId) (vf : Value) (c0_ : Int32) (c1_ : Int32) (c2_ : Int32) (c3_ : Int32) (c4_ : Int32) (c5_ : Int32) (h0 : Heap) (n0 : Nat) (v : Option Value) (h : Heap) (L : List Loc) : Prop := v = some (.int ((c4_ &&& (255 : Int32)).toUInt32.toUInt16.toUInt32.toInt32)) ∧ Fr n0 L ∧ h = h0
set_option maxRecDepth 65536 in
set_option maxHeartbeats 40000000 in
theorem rgl6_4 (l : Launch) (Z : State) (a0 : Array Value) (hw : ∀ d ∈ tables_1, d.before a0 Z = true) (ws : List Jvm.Cond) (b : Addr) (cb : ClassId) (vf : Value) (c0_ : Int32) (c1_ : Int32) (c2_ : Int32) (c3_ : Int32) (c4_ : Int32) (c5_ : Int32) (h0 : Heap) (n0 : Nat) (Z0 : n0 ≤ h0.size) (V_b : Arv Z h0 b cb .byte (6 : Int32) [(.int c0_), (.int c1_), (.int c2_), (.int c3_), (.int c4_), (.int c5_)] (.int (0 : Int32))) (S_f : Sta Z h0 "jdk/internal/util/Preconditions" "SIOOBE_FORMATTER" "Ljava/util/function/BiFunction;" vf) (rvf : vf.isRef = true) :
    OCon l Z (⟨"java/lang/StringLatin1", "charAt", "([BI)C"⟩ : MethodName) jdk_43_method_2_code 2 (some .char) ws ({ frames := 2, cells := 0, slots := 0, locals := 27 } : Room) #[(.ref b), (.int (4 : Int32))] h0 (Q_rgl6_4 Z b cb vf c0_ c1_ c2_ c3_ c4_ c5_ h0 n0) := by
  refine OCon.of (plainFor_of_name pn5) ?_
  intro p e s m below meth c s₁ Φ X0 hx hby hml hown hnm hret hlk hZ e0 hΦ
  have N0 := Fr.nil n0
  refine OGo.st (fun _ kz => castTop (ef_rgl6_4 m b (4 : Int32)) kz) ?_
  show OG p e below Φ s₁ m 0 #[rv b, iv 4] []
  refine OGo.st (fun _ kz => XS.iloadN X0.here hx rfl (hb hby d12_0) rfl kz) ?_
  show OG p e below Φ s₁ m 1 #[rv b, iv 4] [(.int 4)]
  refine OGo.st (fun _ kz => XS.aloadN X0.here hx rfl (hb hby d12_1) rfl rfl kz) ?_
  show OG p e below Φ s₁ m 2 #[rv b, iv 4] [(.ref b), (.int 4)]
  obtain ⟨cl1, Aq1, -, S1, M1, -, -⟩ := id V_b
  refine OGo.st (fun _ kz => X0.arraylength hx (by rw [e0]; exact Aq1.1) (State.isArrayOf_alike hZ.alike Aq1.2.1) (g := (mkF m 2 #[rv b, iv 4] [(.ref b), (.int 4)])) rfl rfl (hb hby d12_2) _ kz) ?_
  rw [len_of S1 M1]
  show OG p e below Φ s₁ m 3 #[rv b, iv 4] [(.int 6), (.int 4)]
  obtain ⟨_, T2, L2, X2, hQ2, st2⟩ := own_callSt X0 hx hZ hown (ow58 hw) (ow59 hw) (ow8 hw) (ow60 hw) (by decide) (rgci l Z a0 hw [] (4 : Int32) (6 : Int32) vf h0 n0 Z0 (by decide) (by decide) S_f rvf) e0 (W := 0) (by decide) (by decide) (by decide) (by decide) (pc := 3) (ls := #[rv b, iv 4]) (stk := [(.int 6), (.int 4)]) (by rw [hml]; rfl) (argsL := [(.int 4), (.int 6)]) (rest := []) (lenOf pd7 rfl) rfl rfl (Nat.le_of_eq rfl) (hb hby d12_3)
  obtain ⟨rfl, Nq2, e2⟩ := hQ2
  have N2 := Fr.app N0 Nq2
  refine OGo.st st2 ?_
  show OG p e below Φ T2 m 6 #[rv b, iv 4] []
  refine OGo.st (fun _ kz => XS.aloadN X2.here hx rfl (hb hby d12_6) rfl rfl kz) ?_
  show OG p e below Φ T2 m 7 #[rv b, iv 4] [(.ref b)]
  refine OGo.st (fun _ kz => XS.iloadN X2.here hx rfl (hb hby d12_7) rfl kz) ?_
  show OG p e below Φ T2 m 8 #[rv b, iv 4] [(.int 4), (.ref b)]
  obtain ⟨cl3, Aq3, -, S3, M3, H3, -⟩ := id V_b
  have in3 : ¬ ((4 : Int32) < 0 ∨ cl3.slots.size ≤ (4 : Int32).toNatClampNeg) := inb_of S3 ⟨by decide, by decide⟩
  have at3 : cl3.slots[(4 : Int32).toNatClampNeg]? = some (.int c4_) := H3.at in3 rfl
  refine OGo.st (fun _ kz => X2.baloadBytes hx (by rw [e2]; exact Aq3.1) (State.isArrayOf_alike hZ.alike Aq3.2.1) Aq3.2.2 in3 at3 (g := (mkF m 8 #[rv b, iv 4] [(.int 4), (.ref b)])) rfl rfl (hb hby d12_8) _ kz) ?_
  show OG p e below Φ T2 m 9 #[rv b, iv 4] [(.int c4_)]
  refine OGo.st (fun _ kz => XS.sipush X2.here hx rfl (hb hby d12_9) kz) ?_
  show OG p e below Φ T2 m 12 #[rv b, iv 4] [(.int 255), (.int c4_)]
  refine OGo.st (fun _ kz => XS.iand X2.here hx rfl (hb hby d12_12) rfl kz) ?_
  show OG p e below Φ T2 m 13 #[rv b, iv 4] [(.int (c4_ &&& (255 : Int32)))]
  refine OGo.st (fun _ kz => XT.i2c X2.here hx rfl (hb hby d12_13) rfl kz) ?_
  show OG p e below Φ T2 m 14 #[rv b, iv 4] [(.int ((c4_ &&& (255 : Int32)).toUInt32.toUInt16.toUInt32.toInt32))]
  refine OGo.fin X2 hlk (v := (some (.int ((c4_ &&& (255 : Int32)).toUInt32.toUInt16.toUInt32.toInt32)))) (fun h => by rw [hret] at h; cases h) (by decide) (by decide) (fun fs hr => X2.ireturnOut hx hret (XT.narrow_c _) (by simp) (hb hby d12_14) hr) fun U eU hF => hΦ _ _ _ ?_ hF
  rw [eU, e2]
  show Q_rgl6_4 Z b cb vf c0_ c1_ c2_ c3_ c4_ c5_ h0 n0 _ _ _
  exact ⟨rfl, N2, rfl⟩

theorem ef_rgh6_4 (m : MethodId) (x0 : Addr) (x1 : Int32) : entryFrame m #[(.ref x0), (.int x1)] 2 = mkF m 0 #[.val (.ref x0), .val (.int x1)] [] := by first | (simp [entryFrame, mkF, argsToLocals, Value.category]; done) | rfl
def Q_rgh6_4 (Z : State) (s_ : Addr) (b : Addr) (cb : ClassId) (qc : Int32) (vf : Value) (c0_ : Int32) (c1_ : Int32) (c2_ : Int32) (c3_ : Int32) (c4_ : Int32) (c5_ : Int32) (h0 : Heap) (n0 : Nat) (v : Option Value) (h : Heap) (L : List Loc) : Prop := v = some (.int ((c4_ &&& (255 : Int32)).toUInt32.toUInt16.toUInt32.toInt32)) ∧ Fr n0 L ∧ h = h0
set_option maxRecDepth 65536 in
set_option maxHeartbeats 40000000 in
theorem rgh6_4 (l : Launch) (Z : State) (a0 : Array Value) (hw : ∀ d ∈ tables_1, d.before a0 Z = true) (ws : List Jvm.Cond) (s_ : Addr) (b : Addr) (cb : ClassId) (qc : Int32) (vf : Value) (c0_ : Int32) (c1_ : Int32) (c2_ : Int32) (c3_ : Int32) (c4_ : Int32) (c5_ : Int32) (h0 : Heap) (n0 : Nat) (Z0 : n0 ≤ h0.size) (E_s : Exa Z h0 s_ "java/lang/String") (F_v : Fld Z h0 s_ "java/lang/String" "value" "[B" (.ref b)) (F_c : Fld Z h0 s_ "java/lang/String" "coder" "B" (.int (0 : Int32))) (V_b : Arv Z h0 b cb .byte (6 : Int32) [(.int c0_), (.int c1_), (.int c2_), (.int c3_), (.int c4_), (.int c5_)] (.int (0 : Int32))) (S_q : Sta Z h0 "java/lang/String" "COMPACT_STRINGS" "Z" (.int qc)) (hq : ¬ qc = 0) (S_f : Sta Z h0 "jdk/internal/util/Preconditions" "SIOOBE_FORMATTER" "Ljava/util/function/BiFunction;" vf) (rvf : vf.isRef = true) :
    OCon l Z (⟨"java/lang/String", "charAt", "(I)C"⟩ : MethodName) jdk_42_method_56_code 2 (some .char) ws ({ frames := 3, cells := 0, slots := 0, locals := 40 } : Room) #[(.ref s_), (.int (4 : Int32))] h0 (Q_rgh6_4 Z s_ b cb qc vf c0_ c1_ c2_ c3_ c4_ c5_ h0 n0) := by
  refine OCon.of (plainFor_of_name pn0) ?_
  intro p e s m below meth c s₁ Φ X0 hx hby hml hown hnm hret hlk hZ e0 hΦ
  have N0 := Fr.nil n0
  refine OGo.st (fun _ kz => castTop (ef_rgh6_4 m s_ (4 : Int32)) kz) ?_
  show OG p e below Φ s₁ m 0 #[rv s_, iv 4] []
  refine OGo.st (fun _ kz => XS.aloadN X0.here hx rfl (hb hby d10_0) rfl rfl kz) ?_
  show OG p e below Φ s₁ m 1 #[rv s_, iv 4] [(.ref s_)]
  obtain ⟨_, T1, L1, X1, hQ1, st1⟩ := own_callVi X0 hx hZ hown (ow49 hw) (ow50 hw) (notFace_of_selects (args := #[]) (mvT hZ (ow52 hw))) (ow52 hw) (ow51 hw) (ow8 hw) (ow53 hw) (by decide) (rgis l Z a0 hw [] s_ qc h0 n0 Z0 F_c S_q hq) e0 (W := 0) (by decide) (by decide) (by decide) (by decide) E_s (pc := 1) (ls := #[rv s_, iv 4]) (stk := [(.ref s_)]) (by rw [hml]; rfl) (argsL := []) (rest := []) (lenOf pd8 rfl) rfl rfl (Nat.le_of_eq rfl) (hb hby d10_1)
  obtain ⟨rfl, Nq1, e1⟩ := hQ1
  have N1 := Fr.app N0 Nq1
  refine OGo.st st1 ?_
  show OG p e below Φ T1 m 4 #[rv s_, iv 4] [(.int 1)]
  refine OGo.st (fun _ kz => XS.ifNo X1.here hx rfl (hb hby d10_4) rfl (XT.i0_eq_f (by decide)) kz) ?_
  show OG p e below Φ T1 m 7 #[rv s_, iv 4] []
  refine OGo.st (fun _ kz => XS.aloadN X1.here hx rfl (hb hby d10_7) rfl rfl kz) ?_
  show OG p e below Φ T1 m 8 #[rv s_, iv 4] [(.ref s_)]
  obtain ⟨T2, X2, e2, st2⟩ := getF X1 hx hZ hown (host := "") (Or.inl (ow32 hw)) Via.refl e1 F_v (g := (mkF m 8 #[rv s_, iv 4] [(.ref s_)])) rfl rfl (hb hby d10_8)
  refine OGo.st st2 ?_
  show OG p e below Φ T2 m 11 #[rv s_, iv 4] [(.ref b)]
  refine OGo.st (fun _ kz => XS.iloadN X2.here hx rfl (hb hby d10_11) rfl kz) ?_
  show OG p e below Φ T2 m 12 #[rv s_, iv 4] [(.int 4), (.ref b)]
  obtain ⟨_, T3, L3, X3, hQ3, st3⟩ := own_callSt X2 hx hZ hown (ow54 hw) (ow55 hw) (ow56 hw) (ow57 hw) (by decide) (rgl6_4 l Z a0 hw [] b cb vf c0_ c1_ c2_ c3_ c4_ c5_ h0 n0 Z0 V_b S_f rvf) e2 (W := 0) (by decide) (by decide) (by decide) (by decide) (pc := 12) (ls := #[rv s_, iv 4]) (stk := [(.int 4), (.ref b)]) (by rw [hml]; rfl) (argsL := [(.ref b), (.int 4)]) (rest := []) (lenOf pd9 rfl) rfl rfl (Nat.le_of_eq rfl) (hb hby d10_12)
  obtain ⟨rfl, Nq3, e3⟩ := hQ3
  have N3 := Fr.app N1 Nq3
  refine OGo.st st3 ?_
  show OG p e below Φ T3 m 15 #[rv s_, iv 4] [(.int ((c4_ &&& (255 : Int32)).toUInt32.toUInt16.toUInt32.toInt32))]
  refine OGo.fin X3 hlk (v := (some (.int ((c4_ &&& (255 : Int32)).toUInt32.toUInt16.toUInt32.toInt32)))) (fun h => by rw [hret] at h; cases h) (by decide) (by decide) (fun fs hr => X3.ireturnOut hx hret (XT.narrow_c _) (by simp) (hb hby d10_15) hr) fun U eU hF => hΦ _ _ _ ?_ hF
  rw [eU, e3]
  show Q_rgh6_4 Z s_ b cb qc vf c0_ c1_ c2_ c3_ c4_ c5_ h0 n0 _ _ _
  exact ⟨rfl, N3, rfl⟩

theorem ef_rgl6_5 (m : MethodId) (x0 : Addr) (x1 : Int32) : entryFrame m #[(.ref x0), (.int x1)] 2 = mkF m 0 #[.val (.ref x0), .val (.int x1)] [] := by first | (simp [entryFrame, mkF, argsToLocals, Value.category]; done) | rfl
def Q_rgl6_5 (Z : State) (b : Addr) (cb : ClassId) (vf : Value) (c0_ : Int32) (c1_ : Int32) (c2_ : Int32) (c3_ : Int32) (c4_ : Int32) (c5_ : Int32) (h0 : Heap) (n0 : Nat) (v : Option Value) (h : Heap) (L : List Loc) : Prop := v = some (.int ((c5_ &&& (255 : Int32)).toUInt32.toUInt16.toUInt32.toInt32)) ∧ Fr n0 L ∧ h = h0
set_option maxRecDepth 65536 in
set_option maxHeartbeats 40000000 in
theorem rgl6_5 (l : Launch) (Z : State) (a0 : Array Value) (hw : ∀ d ∈ tables_1, d.before a0 Z = true) (ws : List Jvm.Cond) (b : Addr) (cb : ClassId) (vf : Value) (c0_ : Int32) (c1_ : Int32) (c2_ : Int32) (c3_ : Int32) (c4_ : Int32) (c5_ : Int32) (h0 : Heap) (n0 : Nat) (Z0 : n0 ≤ h0.size) (V_b : Arv Z h0 b cb .byte (6 : Int32) [(.int c0_), (.int c1_), (.int c2_), (.int c3_), (.int c4_), (.int c5_)] (.int (0 : Int32))) (S_f : Sta Z h0 "jdk/internal/util/Preconditions" "SIOOBE_FORMATTER" "Ljava/util/function/BiFunction;" vf) (rvf : vf.isRef = true) :
    OCon l Z (⟨"java/lang/StringLatin1", "charAt", "([BI)C"⟩ : MethodName) jdk_43_method_2_code 2 (some .char) ws ({ frames := 2, cells := 0, slots := 0, locals := 27 } : Room) #[(.ref b), (.int (5 : Int32))] h0 (Q_rgl6_5 Z b cb vf c0_ c1_ c2_ c3_ c4_ c5_ h0 n0) := by
  refine OCon.of (plainFor_of_name pn5) ?_
  intro p e s m below meth c s₁ Φ X0 hx hby hml hown hnm hret hlk hZ e0 hΦ
  have N0 := Fr.nil n0
  refine OGo.st (fun _ kz => castTop (ef_rgl6_5 m b (5 : Int32)) kz) ?_
  show OG p e below Φ s₁ m 0 #[rv b, iv 5] []
  refine OGo.st (fun _ kz => XS.iloadN X0.here hx rfl (hb hby d12_0) rfl kz) ?_
  show OG p e below Φ s₁ m 1 #[rv b, iv 5] [(.int 5)]
  refine OGo.st (fun _ kz => XS.aloadN X0.here hx rfl (hb hby d12_1) rfl rfl kz) ?_
  show OG p e below Φ s₁ m 2 #[rv b, iv 5] [(.ref b), (.int 5)]
  obtain ⟨cl1, Aq1, -, S1, M1, -, -⟩ := id V_b
  refine OGo.st (fun _ kz => X0.arraylength hx (by rw [e0]; exact Aq1.1) (State.isArrayOf_alike hZ.alike Aq1.2.1) (g := (mkF m 2 #[rv b, iv 5] [(.ref b), (.int 5)])) rfl rfl (hb hby d12_2) _ kz) ?_
  rw [len_of S1 M1]
  show OG p e below Φ s₁ m 3 #[rv b, iv 5] [(.int 6), (.int 5)]
  obtain ⟨_, T2, L2, X2, hQ2, st2⟩ := own_callSt X0 hx hZ hown (ow58 hw) (ow59 hw) (ow8 hw) (ow60 hw) (by decide) (rgci l Z a0 hw [] (5 : Int32) (6 : Int32) vf h0 n0 Z0 (by decide) (by decide) S_f rvf) e0 (W := 0) (by decide) (by decide) (by decide) (by decide) (pc := 3) (ls := #[rv b, iv 5]) (stk := [(.int 6), (.int 5)]) (by rw [hml]; rfl) (argsL := [(.int 5), (.int 6)]) (rest := []) (lenOf pd7 rfl) rfl rfl (Nat.le_of_eq rfl) (hb hby d12_3)
  obtain ⟨rfl, Nq2, e2⟩ := hQ2
  have N2 := Fr.app N0 Nq2
  refine OGo.st st2 ?_
  show OG p e below Φ T2 m 6 #[rv b, iv 5] []
  refine OGo.st (fun _ kz => XS.aloadN X2.here hx rfl (hb hby d12_6) rfl rfl kz) ?_
  show OG p e below Φ T2 m 7 #[rv b, iv 5] [(.ref b)]
  refine OGo.st (fun _ kz => XS.iloadN X2.here hx rfl (hb hby d12_7) rfl kz) ?_
  show OG p e below Φ T2 m 8 #[rv b, iv 5] [(.int 5), (.ref b)]
  obtain ⟨cl3, Aq3, -, S3, M3, H3, -⟩ := id V_b
  have in3 : ¬ ((5 : Int32) < 0 ∨ cl3.slots.size ≤ (5 : Int32).toNatClampNeg) := inb_of S3 ⟨by decide, by decide⟩
  have at3 : cl3.slots[(5 : Int32).toNatClampNeg]? = some (.int c5_) := H3.at in3 rfl
  refine OGo.st (fun _ kz => X2.baloadBytes hx (by rw [e2]; exact Aq3.1) (State.isArrayOf_alike hZ.alike Aq3.2.1) Aq3.2.2 in3 at3 (g := (mkF m 8 #[rv b, iv 5] [(.int 5), (.ref b)])) rfl rfl (hb hby d12_8) _ kz) ?_
  show OG p e below Φ T2 m 9 #[rv b, iv 5] [(.int c5_)]
  refine OGo.st (fun _ kz => XS.sipush X2.here hx rfl (hb hby d12_9) kz) ?_
  show OG p e below Φ T2 m 12 #[rv b, iv 5] [(.int 255), (.int c5_)]
  refine OGo.st (fun _ kz => XS.iand X2.here hx rfl (hb hby d12_12) rfl kz) ?_
  show OG p e below Φ T2 m 13 #[rv b, iv 5] [(.int (c5_ &&& (255 : Int32)))]
  refine OGo.st (fun _ kz => XT.i2c X2.here hx rfl (hb hby d12_13) rfl kz) ?_
  show OG p e below Φ T2 m 14 #[rv b, iv 5] [(.int ((c5_ &&& (255 : Int32)).toUInt32.toUInt16.toUInt32.toInt32))]
  refine OGo.fin X2 hlk (v := (some (.int ((c5_ &&& (255 : Int32)).toUInt32.toUInt16.toUInt32.toInt32)))) (fun h => by rw [hret] at h; cases h) (by decide) (by decide) (fun fs hr => X2.ireturnOut hx hret (XT.narrow_c _) (by simp) (hb hby d12_14) hr) fun U eU hF => hΦ _ _ _ ?_ hF
  rw [eU, e2]
  show Q_rgl6_5 Z b cb vf c0_ c1_ c2_ c3_ c4_ c5_ h0 n0 _ _ _
  exact ⟨rfl, N2, rfl⟩

theorem ef_rgh6_5 (m : MethodId) (x0 : Addr) (x1 : Int32) : entryFrame m #[(.ref x0), (.int x1)] 2 = mkF m 0 #[.val (.ref x0), .val (.int x1)] [] := by first | (simp [entryFrame, mkF, argsToLocals, Value.category]; done) | rfl
def Q_rgh6_5 (Z : State) (s_ : Addr) (b : Addr) (cb : ClassId) (qc : Int32) (vf : Value) (c0_ : Int32) (c1_ : Int32) (c2_ : Int32) (c3_ : Int32) (c4_ : Int32) (c5_ : Int32) (h0 : Heap) (n0 : Nat) (v : Option Value) (h : Heap) (L : List Loc) : Prop := v = some (.int ((c5_ &&& (255 : Int32)).toUInt32.toUInt16.toUInt32.toInt32)) ∧ Fr n0 L ∧ h = h0
set_option maxRecDepth 65536 in
set_option maxHeartbeats 40000000 in
theorem rgh6_5 (l : Launch) (Z : State) (a0 : Array Value) (hw : ∀ d ∈ tables_1, d.before a0 Z = true) (ws : List Jvm.Cond) (s_ : Addr) (b : Addr) (cb : ClassId) (qc : Int32) (vf : Value) (c0_ : Int32) (c1_ : Int32) (c2_ : Int32) (c3_ : Int32) (c4_ : Int32) (c5_ : Int32) (h0 : Heap) (n0 : Nat) (Z0 : n0 ≤ h0.size) (E_s : Exa Z h0 s_ "java/lang/String") (F_v : Fld Z h0 s_ "java/lang/String" "value" "[B" (.ref b)) (F_c : Fld Z h0 s_ "java/lang/String" "coder" "B" (.int (0 : Int32))) (V_b : Arv Z h0 b cb .byte (6 : Int32) [(.int c0_), (.int c1_), (.int c2_), (.int c3_), (.int c4_), (.int c5_)] (.int (0 : Int32))) (S_q : Sta Z h0 "java/lang/String" "COMPACT_STRINGS" "Z" (.int qc)) (hq : ¬ qc = 0) (S_f : Sta Z h0 "jdk/internal/util/Preconditions" "SIOOBE_FORMATTER" "Ljava/util/function/BiFunction;" vf) (rvf : vf.isRef = true) :
    OCon l Z (⟨"java/lang/String", "charAt", "(I)C"⟩ : MethodName) jdk_42_method_56_code 2 (some .char) ws ({ frames := 3, cells := 0, slots := 0, locals := 40 } : Room) #[(.ref s_), (.int (5 : Int32))] h0 (Q_rgh6_5 Z s_ b cb qc vf c0_ c1_ c2_ c3_ c4_ c5_ h0 n0) := by
  refine OCon.of (plainFor_of_name pn0) ?_
  intro p e s m below meth c s₁ Φ X0 hx hby hml hown hnm hret hlk hZ e0 hΦ
  have N0 := Fr.nil n0
  refine OGo.st (fun _ kz => castTop (ef_rgh6_5 m s_ (5 : Int32)) kz) ?_
  show OG p e below Φ s₁ m 0 #[rv s_, iv 5] []
  refine OGo.st (fun _ kz => XS.aloadN X0.here hx rfl (hb hby d10_0) rfl rfl kz) ?_
  show OG p e below Φ s₁ m 1 #[rv s_, iv 5] [(.ref s_)]
  obtain ⟨_, T1, L1, X1, hQ1, st1⟩ := own_callVi X0 hx hZ hown (ow49 hw) (ow50 hw) (notFace_of_selects (args := #[]) (mvT hZ (ow52 hw))) (ow52 hw) (ow51 hw) (ow8 hw) (ow53 hw) (by decide) (rgis l Z a0 hw [] s_ qc h0 n0 Z0 F_c S_q hq) e0 (W := 0) (by decide) (by decide) (by decide) (by decide) E_s (pc := 1) (ls := #[rv s_, iv 5]) (stk := [(.ref s_)]) (by rw [hml]; rfl) (argsL := []) (rest := []) (lenOf pd8 rfl) rfl rfl (Nat.le_of_eq rfl) (hb hby d10_1)
  obtain ⟨rfl, Nq1, e1⟩ := hQ1
  have N1 := Fr.app N0 Nq1
  refine OGo.st st1 ?_
  show OG p e below Φ T1 m 4 #[rv s_, iv 5] [(.int 1)]
  refine OGo.st (fun _ kz => XS.ifNo X1.here hx rfl (hb hby d10_4) rfl (XT.i0_eq_f (by decide)) kz) ?_
  show OG p e below Φ T1 m 7 #[rv s_, iv 5] []
  refine OGo.st (fun _ kz => XS.aloadN X1.here hx rfl (hb hby d10_7) rfl rfl kz) ?_
  show OG p e below Φ T1 m 8 #[rv s_, iv 5] [(.ref s_)]
  obtain ⟨T2, X2, e2, st2⟩ := getF X1 hx hZ hown (host := "") (Or.inl (ow32 hw)) Via.refl e1 F_v (g := (mkF m 8 #[rv s_, iv 5] [(.ref s_)])) rfl rfl (hb hby d10_8)
  refine OGo.st st2 ?_
  show OG p e below Φ T2 m 11 #[rv s_, iv 5] [(.ref b)]
  refine OGo.st (fun _ kz => XS.iloadN X2.here hx rfl (hb hby d10_11) rfl kz) ?_
  show OG p e below Φ T2 m 12 #[rv s_, iv 5] [(.int 5), (.ref b)]
  obtain ⟨_, T3, L3, X3, hQ3, st3⟩ := own_callSt X2 hx hZ hown (ow54 hw) (ow55 hw) (ow56 hw) (ow57 hw) (by decide) (rgl6_5 l Z a0 hw [] b cb vf c0_ c1_ c2_ c3_ c4_ c5_ h0 n0 Z0 V_b S_f rvf) e2 (W := 0) (by decide) (by decide) (by decide) (by decide) (pc := 12) (ls := #[rv s_, iv 5]) (stk := [(.int 5), (.ref b)]) (by rw [hml]; rfl) (argsL := [(.ref b), (.int 5)]) (rest := []) (lenOf pd9 rfl) rfl rfl (Nat.le_of_eq rfl) (hb hby d10_12)
  obtain ⟨rfl, Nq3, e3⟩ := hQ3
  have N3 := Fr.app N1 Nq3
  refine OGo.st st3 ?_
  show OG p e below Φ T3 m 15 #[rv s_, iv 5] [(.int ((c5_ &&& (255 : Int32)).toUInt32.toUInt16.toUInt32.toInt32))]
  refine OGo.fin X3 hlk (v := (some (.int ((c5_ &&& (255 : Int32)).toUInt32.toUInt16.toUInt32.toInt32)))) (fun h => by rw [hret] at h; cases h) (by decide) (by decide) (fun fs hr => X3.ireturnOut hx hret (XT.narrow_c _) (by simp) (hb hby d10_15) hr) fun U eU hF => hΦ _ _ _ ?_ hF
  rw [eU, e3]
  show Q_rgh6_5 Z s_ b cb qc vf c0_ c1_ c2_ c3_ c4_ c5_ h0 n0 _ _ _
  exact ⟨rfl, N3, rfl⟩

theorem ef_rpo6_0 (m : MethodId) (x0 : Addr) (x1 : Int32) (x2 : Int32) : entryFrame m #[(.ref x0), (.int x1), (.int x2)] 4 = mkF m 0 #[.val (.ref x0), .val (.int x1), .val (.int x2), .unset] [] := by first | (simp [entryFrame, mkF, argsToLocals, Value.category]; done) | rfl
def Q_rpo6_0 (Z : State) (t_ : Int8) (s_ : Addr) (b : Addr) (cb : ClassId) (qc : Int32) (vf : Value) (c0_ : Int32) (c1_ : Int32) (c4_ : Int32) (c5_ : Int32) (h0 : Heap) (n0 : Nat) (v : Option Value) (h : Heap) (L : List Loc) : Prop := v = some (.int (1 : Int32)) ∧ Fr n0 L ∧ h = h0
set_option maxRecDepth 65536 in
set_option maxHeartbeats 40000000 in
theorem rpo6_0 (l : Launch) (Z : State) (a0 : Array Value) (hw : ∀ d ∈ tables_1, d.before a0 Z = true) (ws : List Jvm.Cond) (t_ : Int8) (s_ : Addr) (b : Addr) (cb : ClassId) (qc : Int32) (vf : Value) (c0_ : Int32) (c1_ : Int32) (c4_ : Int32) (c5_ : Int32) (h0 : Heap) (n0 : Nat) (Z0 : n0 ≤ h0.size) (E_s : Exa Z h0 s_ "java/lang/String") (F_v : Fld Z h0 s_ "java/lang/String" "value" "[B" (.ref b)) (F_c : Fld Z h0 s_ "java/lang/String" "coder" "B" (.int (0 : Int32))) (V_b : Arv Z h0 b cb .byte (6 : Int32) [(.int c0_), (.int c1_), (.int (own_hi (nar .byte t_.toInt32))), (.int (own_lo (nar .byte t_.toInt32))), (.int c4_), (.int c5_)] (.int (0 : Int32))) (S_q : Sta Z h0 "java/lang/String" "COMPACT_STRINGS" "Z" (.int qc)) (hq : ¬ qc = 0) (S_f : Sta Z h0 "jdk/internal/util/Preconditions" "SIOOBE_FORMATTER" "Ljava/util/function/BiFunction;" vf) (rvf : vf.isRef = true) :
    OCon l Z (⟨"com/example/crossweave/crossweave/PostgreSqlTextOfBytesPinLaw", "pairOk", "(Ljava/lang/String;IB)Z"⟩ : MethodName) method_3_code 4 (some .boolean) ws ({ frames := 4, cells := 0, slots := 0, locals := 53 } : Room) #[(.ref s_), (.int (0 : Int32)), (.int t_.toInt32)] h0 (Q_rpo6_0 Z t_ s_ b cb qc vf c0_ c1_ c4_ c5_ h0 n0) := by
  refine OCon.of (plainFor_of_name pn1) ?_
  intro p e s m below meth c s₁ Φ X0 hx hby hml hown hnm hret hlk hZ e0 hΦ
  have N0 := Fr.nil n0
  refine OGo.st (fun _ kz => castTop (ef_rpo6_0 m s_ (0 : Int32) t_.toInt32) kz) ?_
  show OG p e below Φ s₁ m 0 #[rv s_, iv 0, iv t_.toInt32, .unset] []
  refine OGo.st (fun _ kz => XS.iloadN X0.here hx rfl (hb hby d15_0) rfl kz) ?_
  show OG p e below Φ s₁ m 1 #[rv s_, iv 0, iv t_.toInt32, .unset] [(.int t_.toInt32)]
  refine OGo.st (fun _ kz => XS.sipush X0.here hx rfl (hb hby d15_1) kz) ?_
  show OG p e below Φ s₁ m 4 #[rv s_, iv 0, iv t_.toInt32, .unset] [(.int 255), (.int t_.toInt32)]
  refine OGo.st (fun _ kz => XS.iand X0.here hx rfl (hb hby d15_4) rfl kz) ?_
  show OG p e below Φ s₁ m 5 #[rv s_, iv 0, iv t_.toInt32, .unset] [(.int (t_.toInt32 &&& (255 : Int32)))]
  refine OGo.st (fun _ kz => XS.istoreN X0.here hx rfl (hb hby d15_5) rfl (l' := #[rv s_, iv 0, iv t_.toInt32, iv (t_.toInt32 &&& (255 : Int32))]) rfl kz) ?_
  show OG p e below Φ s₁ m 6 #[rv s_, iv 0, iv t_.toInt32, iv (t_.toInt32 &&& (255 : Int32))] []
  refine OGo.st (fun _ kz => XS.aloadN X0.here hx rfl (hb hby d15_6) rfl rfl kz) ?_
  show OG p e below Φ s₁ m 7 #[rv s_, iv 0, iv t_.toInt32, iv (t_.toInt32 &&& (255 : Int32))] [(.ref s_)]
  refine OGo.st (fun _ kz => XS.iconst X0.here hx rfl (hb hby d15_7) kz) ?_
  show OG p e below Φ s₁ m 8 #[rv s_, iv 0, iv t_.toInt32, iv (t_.toInt32 &&& (255 : Int32))] [(.int 2), (.ref s_)]
  refine OGo.st (fun _ kz => XS.iconst X0.here hx rfl (hb hby d15_8) kz) ?_
  show OG p e below Φ s₁ m 9 #[rv s_, iv 0, iv t_.toInt32, iv (t_.toInt32 &&& (255 : Int32))] [(.int 2), (.int 2), (.ref s_)]
  refine OGo.st (fun _ kz => XS.iloadN X0.here hx rfl (hb hby d15_9) rfl kz) ?_
  show OG p e below Φ s₁ m 10 #[rv s_, iv 0, iv t_.toInt32, iv (t_.toInt32 &&& (255 : Int32))] [(.int 0), (.int 2), (.int 2), (.ref s_)]
  refine OGo.st (fun _ kz => XS.imul X0.here hx rfl (hb hby d15_10) rfl kz) ?_
  show OG p e below Φ s₁ m 11 #[rv s_, iv 0, iv t_.toInt32, iv (t_.toInt32 &&& (255 : Int32))] [(.int 0), (.int 2), (.ref s_)]
  refine OGo.st (fun _ kz => XS.iadd X0.here hx rfl (hb hby d15_11) rfl kz) ?_
  show OG p e below Φ s₁ m 12 #[rv s_, iv 0, iv t_.toInt32, iv (t_.toInt32 &&& (255 : Int32))] [(.int 2), (.ref s_)]
  obtain ⟨_, T1, L1, X1, hQ1, st1⟩ := own_callVi X0 hx hZ hown (ow44 hw) (ow45 hw) (notFace_of_selects (args := #[]) (mvT hZ (ow47 hw))) (ow47 hw) (ow46 hw) (ow8 hw) (ow48 hw) (by decide) (rgh6_2 l Z a0 hw [] s_ b cb qc vf c0_ c1_ (own_hi (nar .byte t_.toInt32)) (own_lo (nar .byte t_.toInt32)) c4_ c5_ h0 n0 Z0 E_s F_v F_c V_b S_q hq S_f rvf) e0 (W := 0) (by decide) (by decide) (by decide) (by decide) E_s (pc := 12) (ls := #[rv s_, iv 0, iv t_.toInt32, iv (t_.toInt32 &&& (255 : Int32))]) (stk := [(.int 2), (.ref s_)]) (by rw [hml]; rfl) (argsL := [(.int 2)]) (rest := []) (lenOf pd10 rfl) rfl rfl (Nat.le_of_eq rfl) (hb hby d15_12)
  obtain ⟨rfl, Nq1, e1⟩ := hQ1
  have N1 := Fr.app N0 Nq1
  refine OGo.st st1 ?_
  show OG p e below Φ T1 m 15 #[rv s_, iv 0, iv t_.toInt32, iv (t_.toInt32 &&& (255 : Int32))] [(.int (((own_hi (nar .byte t_.toInt32)) &&& (255 : Int32)).toUInt32.toUInt16.toUInt32.toInt32))]
  refine OGo.st (fun _ kz => XS.iloadN X1.here hx rfl (hb hby d15_15) rfl kz) ?_
  show OG p e below Φ T1 m 16 #[rv s_, iv 0, iv t_.toInt32, iv (t_.toInt32 &&& (255 : Int32))] [(.int (t_.toInt32 &&& (255 : Int32))), (.int (((own_hi (nar .byte t_.toInt32)) &&& (255 : Int32)).toUInt32.toUInt16.toUInt32.toInt32))]
  refine OGo.st (fun _ kz => XS.bipush X1.here hx rfl (hb hby d15_16) kz) ?_
  show OG p e below Φ T1 m 18 #[rv s_, iv 0, iv t_.toInt32, iv (t_.toInt32 &&& (255 : Int32))] [(.int 16), (.int (t_.toInt32 &&& (255 : Int32))), (.int (((own_hi (nar .byte t_.toInt32)) &&& (255 : Int32)).toUInt32.toUInt16.toUInt32.toInt32))]
  refine OGo.st (fun _ kz => XS.idiv X1.here hx rfl (hb hby d15_18) rfl (by decide) kz) ?_
  show OG p e below Φ T1 m 19 #[rv s_, iv 0, iv t_.toInt32, iv (t_.toInt32 &&& (255 : Int32))] [(.int ((t_.toInt32 &&& (255 : Int32)) / (16 : Int32))), (.int (((own_hi (nar .byte t_.toInt32)) &&& (255 : Int32)).toUInt32.toUInt16.toUInt32.toInt32))]
  obtain ⟨_, T2, L2, X2, hQ2, st2⟩ := own_callSt X1 hx hZ hown (ow72 hw) (ow73 hw) (ow70 hw) (ow74 hw) (by decide) (rmh l Z a0 hw [] ((t_.toInt32 &&& (255 : Int32)) / (16 : Int32)) h0 n0 Z0 ) e1 (W := 1) (by decide) (by decide) (by decide) (by decide) (pc := 19) (ls := #[rv s_, iv 0, iv t_.toInt32, iv (t_.toInt32 &&& (255 : Int32))]) (stk := [(.int ((t_.toInt32 &&& (255 : Int32)) / (16 : Int32))), (.int (((own_hi (nar .byte t_.toInt32)) &&& (255 : Int32)).toUInt32.toUInt16.toUInt32.toInt32))]) (by rw [hml]; rfl) (argsL := [(.int ((t_.toInt32 &&& (255 : Int32)) / (16 : Int32)))]) (rest := [(.int (((own_hi (nar .byte t_.toInt32)) &&& (255 : Int32)).toUInt32.toUInt16.toUInt32.toInt32))]) (lenOf pd10 rfl) rfl rfl (Nat.le_of_eq rfl) (hb hby d15_19)
  obtain ⟨rfl, Nq2, e2⟩ := hQ2
  have N2 := Fr.app N1 Nq2
  refine OGo.st st2 ?_
  show OG p e below Φ T2 m 22 #[rv s_, iv 0, iv t_.toInt32, iv (t_.toInt32 &&& (255 : Int32))] [(.int (own_hex ((t_.toInt32 &&& (255 : Int32)) / (16 : Int32)))), (.int (((own_hi (nar .byte t_.toInt32)) &&& (255 : Int32)).toUInt32.toUInt16.toUInt32.toInt32))]
  refine OGo.st (fun _ kz => XS.icmpNo X2.here hx rfl (hb hby d15_22) rfl (XT.ii_ne_f (own_pair t_).1) kz) ?_
  show OG p e below Φ T2 m 25 #[rv s_, iv 0, iv t_.toInt32, iv (t_.toInt32 &&& (255 : Int32))] []
  refine OGo.st (fun _ kz => XS.aloadN X2.here hx rfl (hb hby d15_25) rfl rfl kz) ?_
  show OG p e below Φ T2 m 26 #[rv s_, iv 0, iv t_.toInt32, iv (t_.toInt32 &&& (255 : Int32))] [(.ref s_)]
  refine OGo.st (fun _ kz => XS.iconst X2.here hx rfl (hb hby d15_26) kz) ?_
  show OG p e below Φ T2 m 27 #[rv s_, iv 0, iv t_.toInt32, iv (t_.toInt32 &&& (255 : Int32))] [(.int 3), (.ref s_)]
  refine OGo.st (fun _ kz => XS.iconst X2.here hx rfl (hb hby d15_27) kz) ?_
  show OG p e below Φ T2 m 28 #[rv s_, iv 0, iv t_.toInt32, iv (t_.toInt32 &&& (255 : Int32))] [(.int 2), (.int 3), (.ref s_)]
  refine OGo.st (fun _ kz => XS.iloadN X2.here hx rfl (hb hby d15_28) rfl kz) ?_
  show OG p e below Φ T2 m 29 #[rv s_, iv 0, iv t_.toInt32, iv (t_.toInt32 &&& (255 : Int32))] [(.int 0), (.int 2), (.int 3), (.ref s_)]
  refine OGo.st (fun _ kz => XS.imul X2.here hx rfl (hb hby d15_29) rfl kz) ?_
  show OG p e below Φ T2 m 30 #[rv s_, iv 0, iv t_.toInt32, iv (t_.toInt32 &&& (255 : Int32))] [(.int 0), (.int 3), (.ref s_)]
  refine OGo.st (fun _ kz => XS.iadd X2.here hx rfl (hb hby d15_30) rfl kz) ?_
  show OG p e below Φ T2 m 31 #[rv s_, iv 0, iv t_.toInt32, iv (t_.toInt32 &&& (255 : Int32))] [(.int 3), (.ref s_)]
  obtain ⟨_, T3, L3, X3, hQ3, st3⟩ := own_callVi X2 hx hZ hown (ow44 hw) (ow45 hw) (notFace_of_selects (args := #[]) (mvT hZ (ow47 hw))) (ow47 hw) (ow46 hw) (ow8 hw) (ow48 hw) (by decide) (rgh6_3 l Z a0 hw [] s_ b cb qc vf c0_ c1_ (own_hi (nar .byte t_.toInt32)) (own_lo (nar .byte t_.toInt32)) c4_ c5_ h0 n0 Z0 E_s F_v F_c V_b S_q hq S_f rvf) e2 (W := 0) (by decide) (by decide) (by decide) (by decide) E_s (pc := 31) (ls := #[rv s_, iv 0, iv t_.toInt32, iv (t_.toInt32 &&& (255 : Int32))]) (stk := [(.int 3), (.ref s_)]) (by rw [hml]; rfl) (argsL := [(.int 3)]) (rest := []) (lenOf pd10 rfl) rfl rfl (Nat.le_of_eq rfl) (hb hby d15_31)
  obtain ⟨rfl, Nq3, e3⟩ := hQ3
  have N3 := Fr.app N2 Nq3
  refine OGo.st st3 ?_
  show OG p e below Φ T3 m 34 #[rv s_, iv 0, iv t_.toInt32, iv (t_.toInt32 &&& (255 : Int32))] [(.int (((own_lo (nar .byte t_.toInt32)) &&& (255 : Int32)).toUInt32.toUInt16.toUInt32.toInt32))]
  refine OGo.st (fun _ kz => XS.iloadN X3.here hx rfl (hb hby d15_34) rfl kz) ?_
  show OG p e below Φ T3 m 35 #[rv s_, iv 0, iv t_.toInt32, iv (t_.toInt32 &&& (255 : Int32))] [(.int (t_.toInt32 &&& (255 : Int32))), (.int (((own_lo (nar .byte t_.toInt32)) &&& (255 : Int32)).toUInt32.toUInt16.toUInt32.toInt32))]
  refine OGo.st (fun _ kz => XS.bipush X3.here hx rfl (hb hby d15_35) kz) ?_
  show OG p e below Φ T3 m 37 #[rv s_, iv 0, iv t_.toInt32, iv (t_.toInt32 &&& (255 : Int32))] [(.int 16), (.int (t_.toInt32 &&& (255 : Int32))), (.int (((own_lo (nar .byte t_.toInt32)) &&& (255 : Int32)).toUInt32.toUInt16.toUInt32.toInt32))]
  refine OGo.st (fun _ kz => iremM X3 hx rfl (hb hby d15_37) rfl (by decide) kz) ?_
  show OG p e below Φ T3 m 38 #[rv s_, iv 0, iv t_.toInt32, iv (t_.toInt32 &&& (255 : Int32))] [(.int ((t_.toInt32 &&& (255 : Int32)) % (16 : Int32))), (.int (((own_lo (nar .byte t_.toInt32)) &&& (255 : Int32)).toUInt32.toUInt16.toUInt32.toInt32))]
  obtain ⟨_, T4, L4, X4, hQ4, st4⟩ := own_callSt X3 hx hZ hown (ow72 hw) (ow73 hw) (ow70 hw) (ow74 hw) (by decide) (rmh l Z a0 hw [] ((t_.toInt32 &&& (255 : Int32)) % (16 : Int32)) h0 n0 Z0 ) e3 (W := 1) (by decide) (by decide) (by decide) (by decide) (pc := 38) (ls := #[rv s_, iv 0, iv t_.toInt32, iv (t_.toInt32 &&& (255 : Int32))]) (stk := [(.int ((t_.toInt32 &&& (255 : Int32)) % (16 : Int32))), (.int (((own_lo (nar .byte t_.toInt32)) &&& (255 : Int32)).toUInt32.toUInt16.toUInt32.toInt32))]) (by rw [hml]; rfl) (argsL := [(.int ((t_.toInt32 &&& (255 : Int32)) % (16 : Int32)))]) (rest := [(.int (((own_lo (nar .byte t_.toInt32)) &&& (255 : Int32)).toUInt32.toUInt16.toUInt32.toInt32))]) (lenOf pd10 rfl) rfl rfl (Nat.le_of_eq rfl) (hb hby d15_38)
  obtain ⟨rfl, Nq4, e4⟩ := hQ4
  have N4 := Fr.app N3 Nq4
  refine OGo.st st4 ?_
  show OG p e below Φ T4 m 41 #[rv s_, iv 0, iv t_.toInt32, iv (t_.toInt32 &&& (255 : Int32))] [(.int (own_hex ((t_.toInt32 &&& (255 : Int32)) % (16 : Int32)))), (.int (((own_lo (nar .byte t_.toInt32)) &&& (255 : Int32)).toUInt32.toUInt16.toUInt32.toInt32))]
  refine OGo.st (fun _ kz => XS.icmpNo X4.here hx rfl (hb hby d15_41) rfl (XT.ii_ne_f (own_pair t_).2) kz) ?_
  show OG p e below Φ T4 m 44 #[rv s_, iv 0, iv t_.toInt32, iv (t_.toInt32 &&& (255 : Int32))] []
  refine OGo.st (fun _ kz => XS.iconst X4.here hx rfl (hb hby d15_44) kz) ?_
  show OG p e below Φ T4 m 45 #[rv s_, iv 0, iv t_.toInt32, iv (t_.toInt32 &&& (255 : Int32))] [(.int 1)]
  refine OGo.st (fun _ kz => XS.goto X4.here hx rfl (pc0 := 45) (pc' := 49) rfl (hb hby d15_45) (by decide) (by decide) kz) ?_
  show OG p e below Φ T4 m 49 #[rv s_, iv 0, iv t_.toInt32, iv (t_.toInt32 &&& (255 : Int32))] [(.int 1)]
  refine OGo.fin X4 hlk (v := (some (.int 1))) (fun h => by rw [hret] at h; cases h) (by decide) (by decide) (fun fs hr => X4.ireturnOut hx hret rfl (by simp) (hb hby d15_49) hr) fun U eU hF => hΦ _ _ _ ?_ hF
  rw [eU, e4]
  show Q_rpo6_0 Z t_ s_ b cb qc vf c0_ c1_ c4_ c5_ h0 n0 _ _ _
  exact ⟨rfl, N4, rfl⟩

theorem ef_rpo6_1 (m : MethodId) (x0 : Addr) (x1 : Int32) (x2 : Int32) : entryFrame m #[(.ref x0), (.int x1), (.int x2)] 4 = mkF m 0 #[.val (.ref x0), .val (.int x1), .val (.int x2), .unset] [] := by first | (simp [entryFrame, mkF, argsToLocals, Value.category]; done) | rfl
def Q_rpo6_1 (Z : State) (t_ : Int8) (s_ : Addr) (b : Addr) (cb : ClassId) (qc : Int32) (vf : Value) (c0_ : Int32) (c1_ : Int32) (c2_ : Int32) (c3_ : Int32) (h0 : Heap) (n0 : Nat) (v : Option Value) (h : Heap) (L : List Loc) : Prop := v = some (.int (1 : Int32)) ∧ Fr n0 L ∧ h = h0
set_option maxRecDepth 65536 in
set_option maxHeartbeats 40000000 in
theorem rpo6_1 (l : Launch) (Z : State) (a0 : Array Value) (hw : ∀ d ∈ tables_1, d.before a0 Z = true) (ws : List Jvm.Cond) (t_ : Int8) (s_ : Addr) (b : Addr) (cb : ClassId) (qc : Int32) (vf : Value) (c0_ : Int32) (c1_ : Int32) (c2_ : Int32) (c3_ : Int32) (h0 : Heap) (n0 : Nat) (Z0 : n0 ≤ h0.size) (E_s : Exa Z h0 s_ "java/lang/String") (F_v : Fld Z h0 s_ "java/lang/String" "value" "[B" (.ref b)) (F_c : Fld Z h0 s_ "java/lang/String" "coder" "B" (.int (0 : Int32))) (V_b : Arv Z h0 b cb .byte (6 : Int32) [(.int c0_), (.int c1_), (.int c2_), (.int c3_), (.int (own_hi (nar .byte t_.toInt32))), (.int (own_lo (nar .byte t_.toInt32)))] (.int (0 : Int32))) (S_q : Sta Z h0 "java/lang/String" "COMPACT_STRINGS" "Z" (.int qc)) (hq : ¬ qc = 0) (S_f : Sta Z h0 "jdk/internal/util/Preconditions" "SIOOBE_FORMATTER" "Ljava/util/function/BiFunction;" vf) (rvf : vf.isRef = true) :
    OCon l Z (⟨"com/example/crossweave/crossweave/PostgreSqlTextOfBytesPinLaw", "pairOk", "(Ljava/lang/String;IB)Z"⟩ : MethodName) method_3_code 4 (some .boolean) ws ({ frames := 4, cells := 0, slots := 0, locals := 53 } : Room) #[(.ref s_), (.int (1 : Int32)), (.int t_.toInt32)] h0 (Q_rpo6_1 Z t_ s_ b cb qc vf c0_ c1_ c2_ c3_ h0 n0) := by
  refine OCon.of (plainFor_of_name pn1) ?_
  intro p e s m below meth c s₁ Φ X0 hx hby hml hown hnm hret hlk hZ e0 hΦ
  have N0 := Fr.nil n0
  refine OGo.st (fun _ kz => castTop (ef_rpo6_1 m s_ (1 : Int32) t_.toInt32) kz) ?_
  show OG p e below Φ s₁ m 0 #[rv s_, iv 1, iv t_.toInt32, .unset] []
  refine OGo.st (fun _ kz => XS.iloadN X0.here hx rfl (hb hby d15_0) rfl kz) ?_
  show OG p e below Φ s₁ m 1 #[rv s_, iv 1, iv t_.toInt32, .unset] [(.int t_.toInt32)]
  refine OGo.st (fun _ kz => XS.sipush X0.here hx rfl (hb hby d15_1) kz) ?_
  show OG p e below Φ s₁ m 4 #[rv s_, iv 1, iv t_.toInt32, .unset] [(.int 255), (.int t_.toInt32)]
  refine OGo.st (fun _ kz => XS.iand X0.here hx rfl (hb hby d15_4) rfl kz) ?_
  show OG p e below Φ s₁ m 5 #[rv s_, iv 1, iv t_.toInt32, .unset] [(.int (t_.toInt32 &&& (255 : Int32)))]
  refine OGo.st (fun _ kz => XS.istoreN X0.here hx rfl (hb hby d15_5) rfl (l' := #[rv s_, iv 1, iv t_.toInt32, iv (t_.toInt32 &&& (255 : Int32))]) rfl kz) ?_
  show OG p e below Φ s₁ m 6 #[rv s_, iv 1, iv t_.toInt32, iv (t_.toInt32 &&& (255 : Int32))] []
  refine OGo.st (fun _ kz => XS.aloadN X0.here hx rfl (hb hby d15_6) rfl rfl kz) ?_
  show OG p e below Φ s₁ m 7 #[rv s_, iv 1, iv t_.toInt32, iv (t_.toInt32 &&& (255 : Int32))] [(.ref s_)]
  refine OGo.st (fun _ kz => XS.iconst X0.here hx rfl (hb hby d15_7) kz) ?_
  show OG p e below Φ s₁ m 8 #[rv s_, iv 1, iv t_.toInt32, iv (t_.toInt32 &&& (255 : Int32))] [(.int 2), (.ref s_)]
  refine OGo.st (fun _ kz => XS.iconst X0.here hx rfl (hb hby d15_8) kz) ?_
  show OG p e below Φ s₁ m 9 #[rv s_, iv 1, iv t_.toInt32, iv (t_.toInt32 &&& (255 : Int32))] [(.int 2), (.int 2), (.ref s_)]
  refine OGo.st (fun _ kz => XS.iloadN X0.here hx rfl (hb hby d15_9) rfl kz) ?_
  show OG p e below Φ s₁ m 10 #[rv s_, iv 1, iv t_.toInt32, iv (t_.toInt32 &&& (255 : Int32))] [(.int 1), (.int 2), (.int 2), (.ref s_)]
  refine OGo.st (fun _ kz => XS.imul X0.here hx rfl (hb hby d15_10) rfl kz) ?_
  show OG p e below Φ s₁ m 11 #[rv s_, iv 1, iv t_.toInt32, iv (t_.toInt32 &&& (255 : Int32))] [(.int 2), (.int 2), (.ref s_)]
  refine OGo.st (fun _ kz => XS.iadd X0.here hx rfl (hb hby d15_11) rfl kz) ?_
  show OG p e below Φ s₁ m 12 #[rv s_, iv 1, iv t_.toInt32, iv (t_.toInt32 &&& (255 : Int32))] [(.int 4), (.ref s_)]
  obtain ⟨_, T1, L1, X1, hQ1, st1⟩ := own_callVi X0 hx hZ hown (ow44 hw) (ow45 hw) (notFace_of_selects (args := #[]) (mvT hZ (ow47 hw))) (ow47 hw) (ow46 hw) (ow8 hw) (ow48 hw) (by decide) (rgh6_4 l Z a0 hw [] s_ b cb qc vf c0_ c1_ c2_ c3_ (own_hi (nar .byte t_.toInt32)) (own_lo (nar .byte t_.toInt32)) h0 n0 Z0 E_s F_v F_c V_b S_q hq S_f rvf) e0 (W := 0) (by decide) (by decide) (by decide) (by decide) E_s (pc := 12) (ls := #[rv s_, iv 1, iv t_.toInt32, iv (t_.toInt32 &&& (255 : Int32))]) (stk := [(.int 4), (.ref s_)]) (by rw [hml]; rfl) (argsL := [(.int 4)]) (rest := []) (lenOf pd10 rfl) rfl rfl (Nat.le_of_eq rfl) (hb hby d15_12)
  obtain ⟨rfl, Nq1, e1⟩ := hQ1
  have N1 := Fr.app N0 Nq1
  refine OGo.st st1 ?_
  show OG p e below Φ T1 m 15 #[rv s_, iv 1, iv t_.toInt32, iv (t_.toInt32 &&& (255 : Int32))] [(.int (((own_hi (nar .byte t_.toInt32)) &&& (255 : Int32)).toUInt32.toUInt16.toUInt32.toInt32))]
  refine OGo.st (fun _ kz => XS.iloadN X1.here hx rfl (hb hby d15_15) rfl kz) ?_
  show OG p e below Φ T1 m 16 #[rv s_, iv 1, iv t_.toInt32, iv (t_.toInt32 &&& (255 : Int32))] [(.int (t_.toInt32 &&& (255 : Int32))), (.int (((own_hi (nar .byte t_.toInt32)) &&& (255 : Int32)).toUInt32.toUInt16.toUInt32.toInt32))]
  refine OGo.st (fun _ kz => XS.bipush X1.here hx rfl (hb hby d15_16) kz) ?_
  show OG p e below Φ T1 m 18 #[rv s_, iv 1, iv t_.toInt32, iv (t_.toInt32 &&& (255 : Int32))] [(.int 16), (.int (t_.toInt32 &&& (255 : Int32))), (.int (((own_hi (nar .byte t_.toInt32)) &&& (255 : Int32)).toUInt32.toUInt16.toUInt32.toInt32))]
  refine OGo.st (fun _ kz => XS.idiv X1.here hx rfl (hb hby d15_18) rfl (by decide) kz) ?_
  show OG p e below Φ T1 m 19 #[rv s_, iv 1, iv t_.toInt32, iv (t_.toInt32 &&& (255 : Int32))] [(.int ((t_.toInt32 &&& (255 : Int32)) / (16 : Int32))), (.int (((own_hi (nar .byte t_.toInt32)) &&& (255 : Int32)).toUInt32.toUInt16.toUInt32.toInt32))]
  obtain ⟨_, T2, L2, X2, hQ2, st2⟩ := own_callSt X1 hx hZ hown (ow72 hw) (ow73 hw) (ow70 hw) (ow74 hw) (by decide) (rmh l Z a0 hw [] ((t_.toInt32 &&& (255 : Int32)) / (16 : Int32)) h0 n0 Z0 ) e1 (W := 1) (by decide) (by decide) (by decide) (by decide) (pc := 19) (ls := #[rv s_, iv 1, iv t_.toInt32, iv (t_.toInt32 &&& (255 : Int32))]) (stk := [(.int ((t_.toInt32 &&& (255 : Int32)) / (16 : Int32))), (.int (((own_hi (nar .byte t_.toInt32)) &&& (255 : Int32)).toUInt32.toUInt16.toUInt32.toInt32))]) (by rw [hml]; rfl) (argsL := [(.int ((t_.toInt32 &&& (255 : Int32)) / (16 : Int32)))]) (rest := [(.int (((own_hi (nar .byte t_.toInt32)) &&& (255 : Int32)).toUInt32.toUInt16.toUInt32.toInt32))]) (lenOf pd10 rfl) rfl rfl (Nat.le_of_eq rfl) (hb hby d15_19)
  obtain ⟨rfl, Nq2, e2⟩ := hQ2
  have N2 := Fr.app N1 Nq2
  refine OGo.st st2 ?_
  show OG p e below Φ T2 m 22 #[rv s_, iv 1, iv t_.toInt32, iv (t_.toInt32 &&& (255 : Int32))] [(.int (own_hex ((t_.toInt32 &&& (255 : Int32)) / (16 : Int32)))), (.int (((own_hi (nar .byte t_.toInt32)) &&& (255 : Int32)).toUInt32.toUInt16.toUInt32.toInt32))]
  refine OGo.st (fun _ kz => XS.icmpNo X2.here hx rfl (hb hby d15_22) rfl (XT.ii_ne_f (own_pair t_).1) kz) ?_
  show OG p e below Φ T2 m 25 #[rv s_, iv 1, iv t_.toInt32, iv (t_.toInt32 &&& (255 : Int32))] []
  refine OGo.st (fun _ kz => XS.aloadN X2.here hx rfl (hb hby d15_25) rfl rfl kz) ?_
  show OG p e below Φ T2 m 26 #[rv s_, iv 1, iv t_.toInt32, iv (t_.toInt32 &&& (255 : Int32))] [(.ref s_)]
  refine OGo.st (fun _ kz => XS.iconst X2.here hx rfl (hb hby d15_26) kz) ?_
  show OG p e below Φ T2 m 27 #[rv s_, iv 1, iv t_.toInt32, iv (t_.toInt32 &&& (255 : Int32))] [(.int 3), (.ref s_)]
  refine OGo.st (fun _ kz => XS.iconst X2.here hx rfl (hb hby d15_27) kz) ?_
  show OG p e below Φ T2 m 28 #[rv s_, iv 1, iv t_.toInt32, iv (t_.toInt32 &&& (255 : Int32))] [(.int 2), (.int 3), (.ref s_)]
  refine OGo.st (fun _ kz => XS.iloadN X2.here hx rfl (hb hby d15_28) rfl kz) ?_
  show OG p e below Φ T2 m 29 #[rv s_, iv 1, iv t_.toInt32, iv (t_.toInt32 &&& (255 : Int32))] [(.int 1), (.int 2), (.int 3), (.ref s_)]
  refine OGo.st (fun _ kz => XS.imul X2.here hx rfl (hb hby d15_29) rfl kz) ?_
  show OG p e below Φ T2 m 30 #[rv s_, iv 1, iv t_.toInt32, iv (t_.toInt32 &&& (255 : Int32))] [(.int 2), (.int 3), (.ref s_)]
  refine OGo.st (fun _ kz => XS.iadd X2.here hx rfl (hb hby d15_30) rfl kz) ?_
  show OG p e below Φ T2 m 31 #[rv s_, iv 1, iv t_.toInt32, iv (t_.toInt32 &&& (255 : Int32))] [(.int 5), (.ref s_)]
  obtain ⟨_, T3, L3, X3, hQ3, st3⟩ := own_callVi X2 hx hZ hown (ow44 hw) (ow45 hw) (notFace_of_selects (args := #[]) (mvT hZ (ow47 hw))) (ow47 hw) (ow46 hw) (ow8 hw) (ow48 hw) (by decide) (rgh6_5 l Z a0 hw [] s_ b cb qc vf c0_ c1_ c2_ c3_ (own_hi (nar .byte t_.toInt32)) (own_lo (nar .byte t_.toInt32)) h0 n0 Z0 E_s F_v F_c V_b S_q hq S_f rvf) e2 (W := 0) (by decide) (by decide) (by decide) (by decide) E_s (pc := 31) (ls := #[rv s_, iv 1, iv t_.toInt32, iv (t_.toInt32 &&& (255 : Int32))]) (stk := [(.int 5), (.ref s_)]) (by rw [hml]; rfl) (argsL := [(.int 5)]) (rest := []) (lenOf pd10 rfl) rfl rfl (Nat.le_of_eq rfl) (hb hby d15_31)
  obtain ⟨rfl, Nq3, e3⟩ := hQ3
  have N3 := Fr.app N2 Nq3
  refine OGo.st st3 ?_
  show OG p e below Φ T3 m 34 #[rv s_, iv 1, iv t_.toInt32, iv (t_.toInt32 &&& (255 : Int32))] [(.int (((own_lo (nar .byte t_.toInt32)) &&& (255 : Int32)).toUInt32.toUInt16.toUInt32.toInt32))]
  refine OGo.st (fun _ kz => XS.iloadN X3.here hx rfl (hb hby d15_34) rfl kz) ?_
  show OG p e below Φ T3 m 35 #[rv s_, iv 1, iv t_.toInt32, iv (t_.toInt32 &&& (255 : Int32))] [(.int (t_.toInt32 &&& (255 : Int32))), (.int (((own_lo (nar .byte t_.toInt32)) &&& (255 : Int32)).toUInt32.toUInt16.toUInt32.toInt32))]
  refine OGo.st (fun _ kz => XS.bipush X3.here hx rfl (hb hby d15_35) kz) ?_
  show OG p e below Φ T3 m 37 #[rv s_, iv 1, iv t_.toInt32, iv (t_.toInt32 &&& (255 : Int32))] [(.int 16), (.int (t_.toInt32 &&& (255 : Int32))), (.int (((own_lo (nar .byte t_.toInt32)) &&& (255 : Int32)).toUInt32.toUInt16.toUInt32.toInt32))]
  refine OGo.st (fun _ kz => iremM X3 hx rfl (hb hby d15_37) rfl (by decide) kz) ?_
  show OG p e below Φ T3 m 38 #[rv s_, iv 1, iv t_.toInt32, iv (t_.toInt32 &&& (255 : Int32))] [(.int ((t_.toInt32 &&& (255 : Int32)) % (16 : Int32))), (.int (((own_lo (nar .byte t_.toInt32)) &&& (255 : Int32)).toUInt32.toUInt16.toUInt32.toInt32))]
  obtain ⟨_, T4, L4, X4, hQ4, st4⟩ := own_callSt X3 hx hZ hown (ow72 hw) (ow73 hw) (ow70 hw) (ow74 hw) (by decide) (rmh l Z a0 hw [] ((t_.toInt32 &&& (255 : Int32)) % (16 : Int32)) h0 n0 Z0 ) e3 (W := 1) (by decide) (by decide) (by decide) (by decide) (pc := 38) (ls := #[rv s_, iv 1, iv t_.toInt32, iv (t_.toInt32 &&& (255 : Int32))]) (stk := [(.int ((t_.toInt32 &&& (255 : Int32)) % (16 : Int32))), (.int (((own_lo (nar .byte t_.toInt32)) &&& (255 : Int32)).toUInt32.toUInt16.toUInt32.toInt32))]) (by rw [hml]; rfl) (argsL := [(.int ((t_.toInt32 &&& (255 : Int32)) % (16 : Int32)))]) (rest := [(.int (((own_lo (nar .byte t_.toInt32)) &&& (255 : Int32)).toUInt32.toUInt16.toUInt32.toInt32))]) (lenOf pd10 rfl) rfl rfl (Nat.le_of_eq rfl) (hb hby d15_38)
  obtain ⟨rfl, Nq4, e4⟩ := hQ4
  have N4 := Fr.app N3 Nq4
  refine OGo.st st4 ?_
  show OG p e below Φ T4 m 41 #[rv s_, iv 1, iv t_.toInt32, iv (t_.toInt32 &&& (255 : Int32))] [(.int (own_hex ((t_.toInt32 &&& (255 : Int32)) % (16 : Int32)))), (.int (((own_lo (nar .byte t_.toInt32)) &&& (255 : Int32)).toUInt32.toUInt16.toUInt32.toInt32))]
  refine OGo.st (fun _ kz => XS.icmpNo X4.here hx rfl (hb hby d15_41) rfl (XT.ii_ne_f (own_pair t_).2) kz) ?_
  show OG p e below Φ T4 m 44 #[rv s_, iv 1, iv t_.toInt32, iv (t_.toInt32 &&& (255 : Int32))] []
  refine OGo.st (fun _ kz => XS.iconst X4.here hx rfl (hb hby d15_44) kz) ?_
  show OG p e below Φ T4 m 45 #[rv s_, iv 1, iv t_.toInt32, iv (t_.toInt32 &&& (255 : Int32))] [(.int 1)]
  refine OGo.st (fun _ kz => XS.goto X4.here hx rfl (pc0 := 45) (pc' := 49) rfl (hb hby d15_45) (by decide) (by decide) kz) ?_
  show OG p e below Φ T4 m 49 #[rv s_, iv 1, iv t_.toInt32, iv (t_.toInt32 &&& (255 : Int32))] [(.int 1)]
  refine OGo.fin X4 hlk (v := (some (.int 1))) (fun h => by rw [hret] at h; cases h) (by decide) (by decide) (fun fs hr => X4.ireturnOut hx hret rfl (by simp) (hb hby d15_49) hr) fun U eU hF => hΦ _ _ _ ?_ hF
  rw [eU, e4]
  show Q_rpo6_1 Z t_ s_ b cb qc vf c0_ c1_ c2_ c3_ h0 n0 _ _ _
  exact ⟨rfl, N4, rfl⟩

theorem ef_rs8c2 (m : MethodId) (x0 : Addr) (x1 : Int32) (x2 : Addr) (x3 : Int32) (x4 : Int32) : entryFrame m #[(.ref x0), (.int x1), (.ref x2), (.int x3), (.int x4)] 7 = mkF m 0 #[.val (.ref x0), .val (.int x1), .val (.ref x2), .val (.int x3), .val (.int x4), .unset, .unset] [] := by first | (simp [entryFrame, mkF, argsToLocals, Value.category]; done) | rfl
def Q_rs8c2 (Z : State) (a : Addr) (ca : ClassId) (b : Addr) (cb : ClassId) (c0_ : Int32) (c1_ : Int32) (c2_ : Int32) (c3_ : Int32) (c4_ : Int32) (c5_ : Int32) (c6_ : Int32) (c7_ : Int32) (h0 : Heap) (n0 : Nat) (v : Option Value) (h : Heap) (L : List Loc) : Prop := v = some (.int (8 : Int32)) ∧ Fr n0 L ∧ Keep h0 h [b] ∧ Arv Z h b cb .byte (8 : Int32) [(.int (nar .byte (c0_.toInt8.toInt32))), (.int (nar .byte (c1_.toInt8.toInt32))), (.int (nar .byte (c2_.toInt8.toInt32))), (.int (nar .byte (c3_.toInt8.toInt32))), (.int (nar .byte (c4_.toInt8.toInt32))), (.int (nar .byte (c5_.toInt8.toInt32))), (.int (nar .byte (c6_.toInt8.toInt32))), (.int (nar .byte (c7_.toInt8.toInt32)))] (.int (0 : Int32))
set_option maxRecDepth 65536 in
set_option maxHeartbeats 40000000 in
theorem rs8c2 (l : Launch) (Z : State) (a0 : Array Value) (hw : ∀ d ∈ tables_1, d.before a0 Z = true) (ws : List Jvm.Cond) (a : Addr) (ca : ClassId) (b : Addr) (cb : ClassId) (c0_ : Int32) (c1_ : Int32) (c2_ : Int32) (c3_ : Int32) (c4_ : Int32) (c5_ : Int32) (c6_ : Int32) (c7_ : Int32) (h0 : Heap) (n0 : Nat) (Z0 : n0 ≤ h0.size) (V_a : Arv Z h0 a ca .char (8 : Int32) [(.int c0_), (.int c1_), (.int c2_), (.int c3_), (.int c4_), (.int c5_), (.int c6_), (.int c7_)] (.int (0 : Int32))) (V_b : Arv Z h0 b cb .byte (8 : Int32) [(.int (0 : Int32)), (.int (0 : Int32)), (.int (0 : Int32)), (.int (0 : Int32)), (.int (0 : Int32)), (.int (0 : Int32)), (.int (0 : Int32)), (.int (0 : Int32))] (.int (0 : Int32))) (nab : a ≠ b) (g_b : n0 ≤ b) (hl0 : ¬ (255 : Int32) < c0_) (hl1 : ¬ (255 : Int32) < c1_) (hl2 : ¬ (255 : Int32) < c2_) (hl3 : ¬ (255 : Int32) < c3_) (hl4 : ¬ (255 : Int32) < c4_) (hl5 : ¬ (255 : Int32) < c5_) (hl6 : ¬ (255 : Int32) < c6_) (hl7 : ¬ (255 : Int32) < c7_) :
    OCon l Z (⟨"java/lang/StringUTF16", "compress", "([CI[BII)I"⟩ : MethodName) jdk_52_method_21_code 7 (some .int) ws ({ frames := 0, cells := 0, slots := 0, locals := 0 } : Room) #[(.ref a), (.int (0 : Int32)), (.ref b), (.int (0 : Int32)), (.int (8 : Int32))] h0 (Q_rs8c2 Z a ca b cb c0_ c1_ c2_ c3_ c4_ c5_ c6_ c7_ h0 n0) := by
  refine OCon.of (plainFor_of_name pn3) ?_
  intro p e s m below meth c s₁ Φ X0 hx hby hml hown hnm hret hlk hZ e0 hΦ
  have N0 := Fr.nil n0
  refine OGo.st (fun _ kz => castTop (ef_rs8c2 m a (0 : Int32) b (0 : Int32) (8 : Int32)) kz) ?_
  have K0 := Keep.refl h0 [b]
  show OG p e below Φ s₁ m 0 #[rv a, iv 0, rv b, iv 0, iv 8, .unset, .unset] []
  refine OGo.st (fun _ kz => XS.iconst X0.here hx rfl (hb hby d6_0) kz) ?_
  show OG p e below Φ s₁ m 1 #[rv a, iv 0, rv b, iv 0, iv 8, .unset, .unset] [(.int 0)]
  refine OGo.st (fun _ kz => XS.istore X0.here hx rfl (hb hby d6_1) rfl (l' := #[rv a, iv 0, rv b, iv 0, iv 8, iv 0, .unset]) rfl kz) ?_
  show OG p e below Φ s₁ m 3 #[rv a, iv 0, rv b, iv 0, iv 8, iv 0, .unset] []
  refine OGo.st (fun _ kz => XS.iload X0.here hx rfl (hb hby d6_3) rfl kz) ?_
  show OG p e below Φ s₁ m 5 #[rv a, iv 0, rv b, iv 0, iv 8, iv 0, .unset] [(.int 0)]
  refine OGo.st (fun _ kz => XS.iload X0.here hx rfl (hb hby d6_5) rfl kz) ?_
  show OG p e below Φ s₁ m 7 #[rv a, iv 0, rv b, iv 0, iv 8, iv 0, .unset] [(.int 8), (.int 0)]
  refine OGo.st (fun _ kz => XS.icmpNo X0.here hx rfl (hb hby d6_7) rfl (XT.ii_ge_f (by decide)) kz) ?_
  show OG p e below Φ s₁ m 10 #[rv a, iv 0, rv b, iv 0, iv 8, iv 0, .unset] []
  refine OGo.st (fun _ kz => XS.aloadN X0.here hx rfl (hb hby d6_10) rfl rfl kz) ?_
  show OG p e below Φ s₁ m 11 #[rv a, iv 0, rv b, iv 0, iv 8, iv 0, .unset] [(.ref a)]
  refine OGo.st (fun _ kz => XS.iloadN X0.here hx rfl (hb hby d6_11) rfl kz) ?_
  show OG p e below Φ s₁ m 12 #[rv a, iv 0, rv b, iv 0, iv 8, iv 0, .unset] [(.int 0), (.ref a)]
  obtain ⟨cl1, Aq1, -, S1, M1, H1, -⟩ := id V_a
  have in1 : ¬ ((0 : Int32) < 0 ∨ cl1.slots.size ≤ (0 : Int32).toNatClampNeg) := inb_of S1 ⟨by decide, by decide⟩
  have at1 : cl1.slots[(0 : Int32).toNatClampNeg]? = some (.int c0_) := H1.at in1 rfl
  refine OGo.st (fun _ kz => X0.caload hx (by rw [e0]; exact Aq1.1) (State.isArrayOf_alike hZ.alike Aq1.2.1) Aq1.2.2 in1 at1 (g := (mkF m 12 #[rv a, iv 0, rv b, iv 0, iv 8, iv 0, .unset] [(.int 0), (.ref a)])) rfl rfl (hb hby d6_12) _ kz) ?_
  show OG p e below Φ s₁ m 13 #[rv a, iv 0, rv b, iv 0, iv 8, iv 0, .unset] [(.int c0_)]
  refine OGo.st (fun _ kz => XS.istore X0.here hx rfl (hb hby d6_13) rfl (l' := #[rv a, iv 0, rv b, iv 0, iv 8, iv 0, iv c0_]) rfl kz) ?_
  show OG p e below Φ s₁ m 15 #[rv a, iv 0, rv b, iv 0, iv 8, iv 0, iv c0_] []
  refine OGo.st (fun _ kz => XS.iload X0.here hx rfl (hb hby d6_15) rfl kz) ?_
  show OG p e below Φ s₁ m 17 #[rv a, iv 0, rv b, iv 0, iv 8, iv 0, iv c0_] [(.int c0_)]
  refine OGo.st (fun _ kz => XS.sipush X0.here hx rfl (hb hby d6_17) kz) ?_
  show OG p e below Φ s₁ m 20 #[rv a, iv 0, rv b, iv 0, iv 8, iv 0, iv c0_] [(.int 255), (.int c0_)]
  refine OGo.st (fun _ kz => XS.icmpYes X0.here hx rfl (pc0 := 20) (pc' := 26) rfl (hb hby d6_20) rfl (XT.ii_le_t hl0) (by decide) (by decide) kz) ?_
  show OG p e below Φ s₁ m 26 #[rv a, iv 0, rv b, iv 0, iv 8, iv 0, iv c0_] []
  refine OGo.st (fun _ kz => XS.aloadN X0.here hx rfl (hb hby d6_26) rfl rfl kz) ?_
  show OG p e below Φ s₁ m 27 #[rv a, iv 0, rv b, iv 0, iv 8, iv 0, iv c0_] [(.ref b)]
  refine OGo.st (fun _ kz => XS.iloadN X0.here hx rfl (hb hby d6_27) rfl kz) ?_
  show OG p e below Φ s₁ m 28 #[rv a, iv 0, rv b, iv 0, iv 8, iv 0, iv c0_] [(.int 0), (.ref b)]
  refine OGo.st (fun _ kz => XS.iload X0.here hx rfl (hb hby d6_28) rfl kz) ?_
  show OG p e below Φ s₁ m 30 #[rv a, iv 0, rv b, iv 0, iv 8, iv 0, iv c0_] [(.int c0_), (.int 0), (.ref b)]
  refine OGo.st (fun _ kz => XT.i2b X0.here hx rfl (hb hby d6_30) rfl kz) ?_
  show OG p e below Φ s₁ m 31 #[rv a, iv 0, rv b, iv 0, iv 8, iv 0, iv c0_] [(.int (c0_.toInt8.toInt32)), (.int 0), (.ref b)]
  obtain ⟨cl2, Aq2, Cq2, S2, M2, H2, G2⟩ := id V_b
  have in2 : ¬ ((0 : Int32) < 0 ∨ cl2.slots.size ≤ (0 : Int32).toNatClampNeg) := inb_of S2 ⟨by decide, by decide⟩
  obtain ⟨T2, h2, X2, e2, W2, st2⟩ := stB X0 hx hZ e0 Aq2 in2 (g := (mkF m 31 #[rv a, iv 0, rv b, iv 0, iv 8, iv 0, iv c0_] [(.int (c0_.toInt8.toInt32)), (.int 0), (.ref b)])) rfl rfl (hb hby d6_31)
  have W2 : Wr h0 h2 b (0 : Int32).toNatClampNeg (.int (nar .byte (c0_.toInt8.toInt32))) := W2
  have F3 := V_a.other W2 nab
  have V2 : Arv Z h2 b cb .byte (8 : Int32) [(.int (nar .byte (c0_.toInt8.toInt32))), (.int (0 : Int32)), (.int (0 : Int32)), (.int (0 : Int32)), (.int (0 : Int32)), (.int (0 : Int32)), (.int (0 : Int32)), (.int (0 : Int32))] (.int (0 : Int32)) := Arv.set Aq2 Cq2 S2 M2 H2 G2 (fits_nar_byte _) W2 0 (by decide) (by show 0 < 8; decide)
  have K2 := K0.wr W2 (Or.inl (List.mem_of_getElem? (i := 0) rfl))
  have N2 := Fr.snoc X2 N0 g_b
  have Zs2 : n0 ≤ h2.size := by rw [W2.size]; exact Z0
  refine OGo.st st2 ?_
  show OG p e below Φ T2 m 32 #[rv a, iv 0, rv b, iv 0, iv 8, iv 0, iv c0_] []
  refine OGo.st (fun _ kz => XS.iinc X2.here hx rfl (hb hby d6_32) rfl (l' := #[rv a, iv ((0 : Int32) + (1 : Int32)), rv b, iv 0, iv 8, iv 0, iv c0_]) rfl kz) ?_
  show OG p e below Φ T2 m 35 #[rv a, iv 1, rv b, iv 0, iv 8, iv 0, iv c0_] []
  refine OGo.st (fun _ kz => XS.iinc X2.here hx rfl (hb hby d6_35) rfl (l' := #[rv a, iv 1, rv b, iv ((0 : Int32) + (1 : Int32)), iv 8, iv 0, iv c0_]) rfl kz) ?_
  show OG p e below Φ T2 m 38 #[rv a, iv 1, rv b, iv 1, iv 8, iv 0, iv c0_] []
  refine OGo.st (fun _ kz => XS.iinc X2.here hx rfl (hb hby d6_38) rfl (l' := #[rv a, iv 1, rv b, iv 1, iv 8, iv ((0 : Int32) + (1 : Int32)), iv c0_]) rfl kz) ?_
  show OG p e below Φ T2 m 41 #[rv a, iv 1, rv b, iv 1, iv 8, iv 1, iv c0_] []
  refine OGo.st (fun _ kz => XS.goto X2.here hx rfl (pc0 := 41) (pc' := 3) rfl (hb hby d6_41) (by decide) (by decide) kz) ?_
  show OG p e below Φ T2 m 3 #[rv a, iv 1, rv b, iv 1, iv 8, iv 1, iv c0_] []
  refine OGo.st (fun _ kz => XS.iload X2.here hx rfl (hb hby d6_3) rfl kz) ?_
  show OG p e below Φ T2 m 5 #[rv a, iv 1, rv b, iv 1, iv 8, iv 1, iv c0_] [(.int 1)]
  refine OGo.st (fun _ kz => XS.iload X2.here hx rfl (hb hby d6_5) rfl kz) ?_
  show OG p e below Φ T2 m 7 #[rv a, iv 1, rv b, iv 1, iv 8, iv 1, iv c0_] [(.int 8), (.int 1)]
  refine OGo.st (fun _ kz => XS.icmpNo X2.here hx rfl (hb hby d6_7) rfl (XT.ii_ge_f (by decide)) kz) ?_
  show OG p e below Φ T2 m 10 #[rv a, iv 1, rv b, iv 1, iv 8, iv 1, iv c0_] []
  refine OGo.st (fun _ kz => XS.aloadN X2.here hx rfl (hb hby d6_10) rfl rfl kz) ?_
  show OG p e below Φ T2 m 11 #[rv a, iv 1, rv b, iv 1, iv 8, iv 1, iv c0_] [(.ref a)]
  refine OGo.st (fun _ kz => XS.iloadN X2.here hx rfl (hb hby d6_11) rfl kz) ?_
  show OG p e below Φ T2 m 12 #[rv a, iv 1, rv b, iv 1, iv 8, iv 1, iv c0_] [(.int 1), (.ref a)]
  obtain ⟨cl4, Aq4, -, S4, M4, H4, -⟩ := id F3
  have in4 : ¬ ((1 : Int32) < 0 ∨ cl4.slots.size ≤ (1 : Int32).toNatClampNeg) := inb_of S4 ⟨by decide, by decide⟩
  have at4 : cl4.slots[(1 : Int32).toNatClampNeg]? = some (.int c1_) := H4.at in4 rfl
  refine OGo.st (fun _ kz => X2.caload hx (by rw [e2]; exact Aq4.1) (State.isArrayOf_alike hZ.alike Aq4.2.1) Aq4.2.2 in4 at4 (g := (mkF m 12 #[rv a, iv 1, rv b, iv 1, iv 8, iv 1, iv c0_] [(.int 1), (.ref a)])) rfl rfl (hb hby d6_12) _ kz) ?_
  show OG p e below Φ T2 m 13 #[rv a, iv 1, rv b, iv 1, iv 8, iv 1, iv c0_] [(.int c1_)]
  refine OGo.st (fun _ kz => XS.istore X2.here hx rfl (hb hby d6_13) rfl (l' := #[rv a, iv 1, rv b, iv 1, iv 8, iv 1, iv c1_]) rfl kz) ?_
  show OG p e below Φ T2 m 15 #[rv a, iv 1, rv b, iv 1, iv 8, iv 1, iv c1_] []
  refine OGo.st (fun _ kz => XS.iload X2.here hx rfl (hb hby d6_15) rfl kz) ?_
  show OG p e below Φ T2 m 17 #[rv a, iv 1, rv b, iv 1, iv 8, iv 1, iv c1_] [(.int c1_)]
  refine OGo.st (fun _ kz => XS.sipush X2.here hx rfl (hb hby d6_17) kz) ?_
  show OG p e below Φ T2 m 20 #[rv a, iv 1, rv b, iv 1, iv 8, iv 1, iv c1_] [(.int 255), (.int c1_)]
  refine OGo.st (fun _ kz => XS.icmpYes X2.here hx rfl (pc0 := 20) (pc' := 26) rfl (hb hby d6_20) rfl (XT.ii_le_t hl1) (by decide) (by decide) kz) ?_
  show OG p e below Φ T2 m 26 #[rv a, iv 1, rv b, iv 1, iv 8, iv 1, iv c1_] []
  refine OGo.st (fun _ kz => XS.aloadN X2.here hx rfl (hb hby d6_26) rfl rfl kz) ?_
  show OG p e below Φ T2 m 27 #[rv a, iv 1, rv b, iv 1, iv 8, iv 1, iv c1_] [(.ref b)]
  refine OGo.st (fun _ kz => XS.iloadN X2.here hx rfl (hb hby d6_27) rfl kz) ?_
  show OG p e below Φ T2 m 28 #[rv a, iv 1, rv b, iv 1, iv 8, iv 1, iv c1_] [(.int 1), (.ref b)]
  refine OGo.st (fun _ kz => XS.iload X2.here hx rfl (hb hby d6_28) rfl kz) ?_
  show OG p e below Φ T2 m 30 #[rv a, iv 1, rv b, iv 1, iv 8, iv 1, iv c1_] [(.int c1_), (.int 1), (.ref b)]
  refine OGo.st (fun _ kz => XT.i2b X2.here hx rfl (hb hby d6_30) rfl kz) ?_
  show OG p e below Φ T2 m 31 #[rv a, iv 1, rv b, iv 1, iv 8, iv 1, iv c1_] [(.int (c1_.toInt8.toInt32)), (.int 1), (.ref b)]
  obtain ⟨cl5, Aq5, Cq5, S5, M5, H5, G5⟩ := id V2
  have in5 : ¬ ((1 : Int32) < 0 ∨ cl5.slots.size ≤ (1 : Int32).toNatClampNeg) := inb_of S5 ⟨by decide, by decide⟩
  obtain ⟨T5, h5, X5, e5, W5, st5⟩ := stB X2 hx hZ e2 Aq5 in5 (g := (mkF m 31 #[rv a, iv 1, rv b, iv 1, iv 8, iv 1, iv c1_] [(.int (c1_.toInt8.toInt32)), (.int 1), (.ref b)])) rfl rfl (hb hby d6_31)
  have W5 : Wr h2 h5 b (1 : Int32).toNatClampNeg (.int (nar .byte (c1_.toInt8.toInt32))) := W5
  have F6 := F3.other W5 nab
  have V5 : Arv Z h5 b cb .byte (8 : Int32) [(.int (nar .byte (c0_.toInt8.toInt32))), (.int (nar .byte (c1_.toInt8.toInt32))), (.int (0 : Int32)), (.int (0 : Int32)), (.int (0 : Int32)), (.int (0 : Int32)), (.int (0 : Int32)), (.int (0 : Int32))] (.int (0 : Int32)) := Arv.set Aq5 Cq5 S5 M5 H5 G5 (fits_nar_byte _) W5 1 (by decide) (by show 1 < 8; decide)
  have K5 := K2.wr W5 (Or.inl (List.mem_of_getElem? (i := 0) rfl))
  have N5 := Fr.snoc X5 N2 g_b
  have Zs5 : n0 ≤ h5.size := by rw [W5.size]; exact Zs2
  refine OGo.st st5 ?_
  show OG p e below Φ T5 m 32 #[rv a, iv 1, rv b, iv 1, iv 8, iv 1, iv c1_] []
  refine OGo.st (fun _ kz => XS.iinc X5.here hx rfl (hb hby d6_32) rfl (l' := #[rv a, iv ((1 : Int32) + (1 : Int32)), rv b, iv 1, iv 8, iv 1, iv c1_]) rfl kz) ?_
  show OG p e below Φ T5 m 35 #[rv a, iv 2, rv b, iv 1, iv 8, iv 1, iv c1_] []
  refine OGo.st (fun _ kz => XS.iinc X5.here hx rfl (hb hby d6_35) rfl (l' := #[rv a, iv 2, rv b, iv ((1 : Int32) + (1 : Int32)), iv 8, iv 1, iv c1_]) rfl kz) ?_
  show OG p e below Φ T5 m 38 #[rv a, iv 2, rv b, iv 2, iv 8, iv 1, iv c1_] []
  refine OGo.st (fun _ kz => XS.iinc X5.here hx rfl (hb hby d6_38) rfl (l' := #[rv a, iv 2, rv b, iv 2, iv 8, iv ((1 : Int32) + (1 : Int32)), iv c1_]) rfl kz) ?_
  show OG p e below Φ T5 m 41 #[rv a, iv 2, rv b, iv 2, iv 8, iv 2, iv c1_] []
  refine OGo.st (fun _ kz => XS.goto X5.here hx rfl (pc0 := 41) (pc' := 3) rfl (hb hby d6_41) (by decide) (by decide) kz) ?_
  show OG p e below Φ T5 m 3 #[rv a, iv 2, rv b, iv 2, iv 8, iv 2, iv c1_] []
  refine OGo.st (fun _ kz => XS.iload X5.here hx rfl (hb hby d6_3) rfl kz) ?_
  show OG p e below Φ T5 m 5 #[rv a, iv 2, rv b, iv 2, iv 8, iv 2, iv c1_] [(.int 2)]
  refine OGo.st (fun _ kz => XS.iload X5.here hx rfl (hb hby d6_5) rfl kz) ?_
  show OG p e below Φ T5 m 7 #[rv a, iv 2, rv b, iv 2, iv 8, iv 2, iv c1_] [(.int 8), (.int 2)]
  refine OGo.st (fun _ kz => XS.icmpNo X5.here hx rfl (hb hby d6_7) rfl (XT.ii_ge_f (by decide)) kz) ?_
  show OG p e below Φ T5 m 10 #[rv a, iv 2, rv b, iv 2, iv 8, iv 2, iv c1_] []
  refine OGo.st (fun _ kz => XS.aloadN X5.here hx rfl (hb hby d6_10) rfl rfl kz) ?_
  show OG p e below Φ T5 m 11 #[rv a, iv 2, rv b, iv 2, iv 8, iv 2, iv c1_] [(.ref a)]
  refine OGo.st (fun _ kz => XS.iloadN X5.here hx rfl (hb hby d6_11) rfl kz) ?_
  show OG p e below Φ T5 m 12 #[rv a, iv 2, rv b, iv 2, iv 8, iv 2, iv c1_] [(.int 2), (.ref a)]
  obtain ⟨cl7, Aq7, -, S7, M7, H7, -⟩ := id F6
  have in7 : ¬ ((2 : Int32) < 0 ∨ cl7.slots.size ≤ (2 : Int32).toNatClampNeg) := inb_of S7 ⟨by decide, by decide⟩
  have at7 : cl7.slots[(2 : Int32).toNatClampNeg]? = some (.int c2_) := H7.at in7 rfl
  refine OGo.st (fun _ kz => X5.caload hx (by rw [e5]; exact Aq7.1) (State.isArrayOf_alike hZ.alike Aq7.2.1) Aq7.2.2 in7 at7 (g := (mkF m 12 #[rv a, iv 2, rv b, iv 2, iv 8, iv 2, iv c1_] [(.int 2), (.ref a)])) rfl rfl (hb hby d6_12) _ kz) ?_
  show OG p e below Φ T5 m 13 #[rv a, iv 2, rv b, iv 2, iv 8, iv 2, iv c1_] [(.int c2_)]
  refine OGo.st (fun _ kz => XS.istore X5.here hx rfl (hb hby d6_13) rfl (l' := #[rv a, iv 2, rv b, iv 2, iv 8, iv 2, iv c2_]) rfl kz) ?_
  show OG p e below Φ T5 m 15 #[rv a, iv 2, rv b, iv 2, iv 8, iv 2, iv c2_] []
  refine OGo.st (fun _ kz => XS.iload X5.here hx rfl (hb hby d6_15) rfl kz) ?_
  show OG p e below Φ T5 m 17 #[rv a, iv 2, rv b, iv 2, iv 8, iv 2, iv c2_] [(.int c2_)]
  refine OGo.st (fun _ kz => XS.sipush X5.here hx rfl (hb hby d6_17) kz) ?_
  show OG p e below Φ T5 m 20 #[rv a, iv 2, rv b, iv 2, iv 8, iv 2, iv c2_] [(.int 255), (.int c2_)]
  refine OGo.st (fun _ kz => XS.icmpYes X5.here hx rfl (pc0 := 20) (pc' := 26) rfl (hb hby d6_20) rfl (XT.ii_le_t hl2) (by decide) (by decide) kz) ?_
  show OG p e below Φ T5 m 26 #[rv a, iv 2, rv b, iv 2, iv 8, iv 2, iv c2_] []
  refine OGo.st (fun _ kz => XS.aloadN X5.here hx rfl (hb hby d6_26) rfl rfl kz) ?_
  show OG p e below Φ T5 m 27 #[rv a, iv 2, rv b, iv 2, iv 8, iv 2, iv c2_] [(.ref b)]
  refine OGo.st (fun _ kz => XS.iloadN X5.here hx rfl (hb hby d6_27) rfl kz) ?_
  show OG p e below Φ T5 m 28 #[rv a, iv 2, rv b, iv 2, iv 8, iv 2, iv c2_] [(.int 2), (.ref b)]
  refine OGo.st (fun _ kz => XS.iload X5.here hx rfl (hb hby d6_28) rfl kz) ?_
  show OG p e below Φ T5 m 30 #[rv a, iv 2, rv b, iv 2, iv 8, iv 2, iv c2_] [(.int c2_), (.int 2), (.ref b)]
  refine OGo.st (fun _ kz => XT.i2b X5.here hx rfl (hb hby d6_30) rfl kz) ?_
  show OG p e below Φ T5 m 31 #[rv a, iv 2, rv b, iv 2, iv 8, iv 2, iv c2_] [(.int (c2_.toInt8.toInt32)), (.int 2), (.ref b)]
  obtain ⟨cl8, Aq8, Cq8, S8, M8, H8, G8⟩ := id V5
  have in8 : ¬ ((2 : Int32) < 0 ∨ cl8.slots.size ≤ (2 : Int32).toNatClampNeg) := inb_of S8 ⟨by decide, by decide⟩
  obtain ⟨T8, h8, X8, e8, W8, st8⟩ := stB X5 hx hZ e5 Aq8 in8 (g := (mkF m 31 #[rv a, iv 2, rv b, iv 2, iv 8, iv 2, iv c2_] [(.int (c2_.toInt8.toInt32)), (.int 2), (.ref b)])) rfl rfl (hb hby d6_31)
  have W8 : Wr h5 h8 b (2 : Int32).toNatClampNeg (.int (nar .byte (c2_.toInt8.toInt32))) := W8
  have F9 := F6.other W8 nab
  have V8 : Arv Z h8 b cb .byte (8 : Int32) [(.int (nar .byte (c0_.toInt8.toInt32))), (.int (nar .byte (c1_.toInt8.toInt32))), (.int (nar .byte (c2_.toInt8.toInt32))), (.int (0 : Int32)), (.int (0 : Int32)), (.int (0 : Int32)), (.int (0 : Int32)), (.int (0 : Int32))] (.int (0 : Int32)) := Arv.set Aq8 Cq8 S8 M8 H8 G8 (fits_nar_byte _) W8 2 (by decide) (by show 2 < 8; decide)
  have K8 := K5.wr W8 (Or.inl (List.mem_of_getElem? (i := 0) rfl))
  have N8 := Fr.snoc X8 N5 g_b
  have Zs8 : n0 ≤ h8.size := by rw [W8.size]; exact Zs5
  refine OGo.st st8 ?_
  show OG p e below Φ T8 m 32 #[rv a, iv 2, rv b, iv 2, iv 8, iv 2, iv c2_] []
  refine OGo.st (fun _ kz => XS.iinc X8.here hx rfl (hb hby d6_32) rfl (l' := #[rv a, iv ((2 : Int32) + (1 : Int32)), rv b, iv 2, iv 8, iv 2, iv c2_]) rfl kz) ?_
  show OG p e below Φ T8 m 35 #[rv a, iv 3, rv b, iv 2, iv 8, iv 2, iv c2_] []
  refine OGo.st (fun _ kz => XS.iinc X8.here hx rfl (hb hby d6_35) rfl (l' := #[rv a, iv 3, rv b, iv ((2 : Int32) + (1 : Int32)), iv 8, iv 2, iv c2_]) rfl kz) ?_
  show OG p e below Φ T8 m 38 #[rv a, iv 3, rv b, iv 3, iv 8, iv 2, iv c2_] []
  refine OGo.st (fun _ kz => XS.iinc X8.here hx rfl (hb hby d6_38) rfl (l' := #[rv a, iv 3, rv b, iv 3, iv 8, iv ((2 : Int32) + (1 : Int32)), iv c2_]) rfl kz) ?_
  show OG p e below Φ T8 m 41 #[rv a, iv 3, rv b, iv 3, iv 8, iv 3, iv c2_] []
  refine OGo.st (fun _ kz => XS.goto X8.here hx rfl (pc0 := 41) (pc' := 3) rfl (hb hby d6_41) (by decide) (by decide) kz) ?_
  show OG p e below Φ T8 m 3 #[rv a, iv 3, rv b, iv 3, iv 8, iv 3, iv c2_] []
  refine OGo.st (fun _ kz => XS.iload X8.here hx rfl (hb hby d6_3) rfl kz) ?_
  show OG p e below Φ T8 m 5 #[rv a, iv 3, rv b, iv 3, iv 8, iv 3, iv c2_] [(.int 3)]
  refine OGo.st (fun _ kz => XS.iload X8.here hx rfl (hb hby d6_5) rfl kz) ?_
  show OG p e below Φ T8 m 7 #[rv a, iv 3, rv b, iv 3, iv 8, iv 3, iv c2_] [(.int 8), (.int 3)]
  refine OGo.st (fun _ kz => XS.icmpNo X8.here hx rfl (hb hby d6_7) rfl (XT.ii_ge_f (by decide)) kz) ?_
  show OG p e below Φ T8 m 10 #[rv a, iv 3, rv b, iv 3, iv 8, iv 3, iv c2_] []
  refine OGo.st (fun _ kz => XS.aloadN X8.here hx rfl (hb hby d6_10) rfl rfl kz) ?_
  show OG p e below Φ T8 m 11 #[rv a, iv 3, rv b, iv 3, iv 8, iv 3, iv c2_] [(.ref a)]
  refine OGo.st (fun _ kz => XS.iloadN X8.here hx rfl (hb hby d6_11) rfl kz) ?_
  show OG p e below Φ T8 m 12 #[rv a, iv 3, rv b, iv 3, iv 8, iv 3, iv c2_] [(.int 3), (.ref a)]
  obtain ⟨cl10, Aq10, -, S10, M10, H10, -⟩ := id F9
  have in10 : ¬ ((3 : Int32) < 0 ∨ cl10.slots.size ≤ (3 : Int32).toNatClampNeg) := inb_of S10 ⟨by decide, by decide⟩
  have at10 : cl10.slots[(3 : Int32).toNatClampNeg]? = some (.int c3_) := H10.at in10 rfl
  refine OGo.st (fun _ kz => X8.caload hx (by rw [e8]; exact Aq10.1) (State.isArrayOf_alike hZ.alike Aq10.2.1) Aq10.2.2 in10 at10 (g := (mkF m 12 #[rv a, iv 3, rv b, iv 3, iv 8, iv 3, iv c2_] [(.int 3), (.ref a)])) rfl rfl (hb hby d6_12) _ kz) ?_
  show OG p e below Φ T8 m 13 #[rv a, iv 3, rv b, iv 3, iv 8, iv 3, iv c2_] [(.int c3_)]
  refine OGo.st (fun _ kz => XS.istore X8.here hx rfl (hb hby d6_13) rfl (l' := #[rv a, iv 3, rv b, iv 3, iv 8, iv 3, iv c3_]) rfl kz) ?_
  show OG p e below Φ T8 m 15 #[rv a, iv 3, rv b, iv 3, iv 8, iv 3, iv c3_] []
  refine OGo.st (fun _ kz => XS.iload X8.here hx rfl (hb hby d6_15) rfl kz) ?_
  show OG p e below Φ T8 m 17 #[rv a, iv 3, rv b, iv 3, iv 8, iv 3, iv c3_] [(.int c3_)]
  refine OGo.st (fun _ kz => XS.sipush X8.here hx rfl (hb hby d6_17) kz) ?_
  show OG p e below Φ T8 m 20 #[rv a, iv 3, rv b, iv 3, iv 8, iv 3, iv c3_] [(.int 255), (.int c3_)]
  refine OGo.st (fun _ kz => XS.icmpYes X8.here hx rfl (pc0 := 20) (pc' := 26) rfl (hb hby d6_20) rfl (XT.ii_le_t hl3) (by decide) (by decide) kz) ?_
  show OG p e below Φ T8 m 26 #[rv a, iv 3, rv b, iv 3, iv 8, iv 3, iv c3_] []
  refine OGo.st (fun _ kz => XS.aloadN X8.here hx rfl (hb hby d6_26) rfl rfl kz) ?_
  show OG p e below Φ T8 m 27 #[rv a, iv 3, rv b, iv 3, iv 8, iv 3, iv c3_] [(.ref b)]
  refine OGo.st (fun _ kz => XS.iloadN X8.here hx rfl (hb hby d6_27) rfl kz) ?_
  show OG p e below Φ T8 m 28 #[rv a, iv 3, rv b, iv 3, iv 8, iv 3, iv c3_] [(.int 3), (.ref b)]
  refine OGo.st (fun _ kz => XS.iload X8.here hx rfl (hb hby d6_28) rfl kz) ?_
  show OG p e below Φ T8 m 30 #[rv a, iv 3, rv b, iv 3, iv 8, iv 3, iv c3_] [(.int c3_), (.int 3), (.ref b)]
  refine OGo.st (fun _ kz => XT.i2b X8.here hx rfl (hb hby d6_30) rfl kz) ?_
  show OG p e below Φ T8 m 31 #[rv a, iv 3, rv b, iv 3, iv 8, iv 3, iv c3_] [(.int (c3_.toInt8.toInt32)), (.int 3), (.ref b)]
  obtain ⟨cl11, Aq11, Cq11, S11, M11, H11, G11⟩ := id V8
  have in11 : ¬ ((3 : Int32) < 0 ∨ cl11.slots.size ≤ (3 : Int32).toNatClampNeg) := inb_of S11 ⟨by decide, by decide⟩
  obtain ⟨T11, h11, X11, e11, W11, st11⟩ := stB X8 hx hZ e8 Aq11 in11 (g := (mkF m 31 #[rv a, iv 3, rv b, iv 3, iv 8, iv 3, iv c3_] [(.int (c3_.toInt8.toInt32)), (.int 3), (.ref b)])) rfl rfl (hb hby d6_31)
  have W11 : Wr h8 h11 b (3 : Int32).toNatClampNeg (.int (nar .byte (c3_.toInt8.toInt32))) := W11
  have F12 := F9.other W11 nab
  have V11 : Arv Z h11 b cb .byte (8 : Int32) [(.int (nar .byte (c0_.toInt8.toInt32))), (.int (nar .byte (c1_.toInt8.toInt32))), (.int (nar .byte (c2_.toInt8.toInt32))), (.int (nar .byte (c3_.toInt8.toInt32))), (.int (0 : Int32)), (.int (0 : Int32)), (.int (0 : Int32)), (.int (0 : Int32))] (.int (0 : Int32)) := Arv.set Aq11 Cq11 S11 M11 H11 G11 (fits_nar_byte _) W11 3 (by decide) (by show 3 < 8; decide)
  have K11 := K8.wr W11 (Or.inl (List.mem_of_getElem? (i := 0) rfl))
  have N11 := Fr.snoc X11 N8 g_b
  have Zs11 : n0 ≤ h11.size := by rw [W11.size]; exact Zs8
  refine OGo.st st11 ?_
  show OG p e below Φ T11 m 32 #[rv a, iv 3, rv b, iv 3, iv 8, iv 3, iv c3_] []
  refine OGo.st (fun _ kz => XS.iinc X11.here hx rfl (hb hby d6_32) rfl (l' := #[rv a, iv ((3 : Int32) + (1 : Int32)), rv b, iv 3, iv 8, iv 3, iv c3_]) rfl kz) ?_
  show OG p e below Φ T11 m 35 #[rv a, iv 4, rv b, iv 3, iv 8, iv 3, iv c3_] []
  refine OGo.st (fun _ kz => XS.iinc X11.here hx rfl (hb hby d6_35) rfl (l' := #[rv a, iv 4, rv b, iv ((3 : Int32) + (1 : Int32)), iv 8, iv 3, iv c3_]) rfl kz) ?_
  show OG p e below Φ T11 m 38 #[rv a, iv 4, rv b, iv 4, iv 8, iv 3, iv c3_] []
  refine OGo.st (fun _ kz => XS.iinc X11.here hx rfl (hb hby d6_38) rfl (l' := #[rv a, iv 4, rv b, iv 4, iv 8, iv ((3 : Int32) + (1 : Int32)), iv c3_]) rfl kz) ?_
  show OG p e below Φ T11 m 41 #[rv a, iv 4, rv b, iv 4, iv 8, iv 4, iv c3_] []
  refine OGo.st (fun _ kz => XS.goto X11.here hx rfl (pc0 := 41) (pc' := 3) rfl (hb hby d6_41) (by decide) (by decide) kz) ?_
  show OG p e below Φ T11 m 3 #[rv a, iv 4, rv b, iv 4, iv 8, iv 4, iv c3_] []
  refine OGo.st (fun _ kz => XS.iload X11.here hx rfl (hb hby d6_3) rfl kz) ?_
  show OG p e below Φ T11 m 5 #[rv a, iv 4, rv b, iv 4, iv 8, iv 4, iv c3_] [(.int 4)]
  refine OGo.st (fun _ kz => XS.iload X11.here hx rfl (hb hby d6_5) rfl kz) ?_
  show OG p e below Φ T11 m 7 #[rv a, iv 4, rv b, iv 4, iv 8, iv 4, iv c3_] [(.int 8), (.int 4)]
  refine OGo.st (fun _ kz => XS.icmpNo X11.here hx rfl (hb hby d6_7) rfl (XT.ii_ge_f (by decide)) kz) ?_
  show OG p e below Φ T11 m 10 #[rv a, iv 4, rv b, iv 4, iv 8, iv 4, iv c3_] []
  refine OGo.st (fun _ kz => XS.aloadN X11.here hx rfl (hb hby d6_10) rfl rfl kz) ?_
  show OG p e below Φ T11 m 11 #[rv a, iv 4, rv b, iv 4, iv 8, iv 4, iv c3_] [(.ref a)]
  refine OGo.st (fun _ kz => XS.iloadN X11.here hx rfl (hb hby d6_11) rfl kz) ?_
  show OG p e below Φ T11 m 12 #[rv a, iv 4, rv b, iv 4, iv 8, iv 4, iv c3_] [(.int 4), (.ref a)]
  obtain ⟨cl13, Aq13, -, S13, M13, H13, -⟩ := id F12
  have in13 : ¬ ((4 : Int32) < 0 ∨ cl13.slots.size ≤ (4 : Int32).toNatClampNeg) := inb_of S13 ⟨by decide, by decide⟩
  have at13 : cl13.slots[(4 : Int32).toNatClampNeg]? = some (.int c4_) := H13.at in13 rfl
  refine OGo.st (fun _ kz => X11.caload hx (by rw [e11]; exact Aq13.1) (State.isArrayOf_alike hZ.alike Aq13.2.1) Aq13.2.2 in13 at13 (g := (mkF m 12 #[rv a, iv 4, rv b, iv 4, iv 8, iv 4, iv c3_] [(.int 4), (.ref a)])) rfl rfl (hb hby d6_12) _ kz) ?_
  show OG p e below Φ T11 m 13 #[rv a, iv 4, rv b, iv 4, iv 8, iv 4, iv c3_] [(.int c4_)]
  refine OGo.st (fun _ kz => XS.istore X11.here hx rfl (hb hby d6_13) rfl (l' := #[rv a, iv 4, rv b, iv 4, iv 8, iv 4, iv c4_]) rfl kz) ?_
  show OG p e below Φ T11 m 15 #[rv a, iv 4, rv b, iv 4, iv 8, iv 4, iv c4_] []
  refine OGo.st (fun _ kz => XS.iload X11.here hx rfl (hb hby d6_15) rfl kz) ?_
  show OG p e below Φ T11 m 17 #[rv a, iv 4, rv b, iv 4, iv 8, iv 4, iv c4_] [(.int c4_)]
  refine OGo.st (fun _ kz => XS.sipush X11.here hx rfl (hb hby d6_17) kz) ?_
  show OG p e below Φ T11 m 20 #[rv a, iv 4, rv b, iv 4, iv 8, iv 4, iv c4_] [(.int 255), (.int c4_)]
  refine OGo.st (fun _ kz => XS.icmpYes X11.here hx rfl (pc0 := 20) (pc' := 26) rfl (hb hby d6_20) rfl (XT.ii_le_t hl4) (by decide) (by decide) kz) ?_
  show OG p e below Φ T11 m 26 #[rv a, iv 4, rv b, iv 4, iv 8, iv 4, iv c4_] []
  refine OGo.st (fun _ kz => XS.aloadN X11.here hx rfl (hb hby d6_26) rfl rfl kz) ?_
  show OG p e below Φ T11 m 27 #[rv a, iv 4, rv b, iv 4, iv 8, iv 4, iv c4_] [(.ref b)]
  refine OGo.st (fun _ kz => XS.iloadN X11.here hx rfl (hb hby d6_27) rfl kz) ?_
  show OG p e below Φ T11 m 28 #[rv a, iv 4, rv b, iv 4, iv 8, iv 4, iv c4_] [(.int 4), (.ref b)]
  refine OGo.st (fun _ kz => XS.iload X11.here hx rfl (hb hby d6_28) rfl kz) ?_
  show OG p e below Φ T11 m 30 #[rv a, iv 4, rv b, iv 4, iv 8, iv 4, iv c4_] [(.int c4_), (.int 4), (.ref b)]
  refine OGo.st (fun _ kz => XT.i2b X11.here hx rfl (hb hby d6_30) rfl kz) ?_
  show OG p e below Φ T11 m 31 #[rv a, iv 4, rv b, iv 4, iv 8, iv 4, iv c4_] [(.int (c4_.toInt8.toInt32)), (.int 4), (.ref b)]
  obtain ⟨cl14, Aq14, Cq14, S14, M14, H14, G14⟩ := id V11
  have in14 : ¬ ((4 : Int32) < 0 ∨ cl14.slots.size ≤ (4 : Int32).toNatClampNeg) := inb_of S14 ⟨by decide, by decide⟩
  obtain ⟨T14, h14, X14, e14, W14, st14⟩ := stB X11 hx hZ e11 Aq14 in14 (g := (mkF m 31 #[rv a, iv 4, rv b, iv 4, iv 8, iv 4, iv c4_] [(.int (c4_.toInt8.toInt32)), (.int 4), (.ref b)])) rfl rfl (hb hby d6_31)
  have W14 : Wr h11 h14 b (4 : Int32).toNatClampNeg (.int (nar .byte (c4_.toInt8.toInt32))) := W14
  have F15 := F12.other W14 nab
  have V14 : Arv Z h14 b cb .byte (8 : Int32) [(.int (nar .byte (c0_.toInt8.toInt32))), (.int (nar .byte (c1_.toInt8.toInt32))), (.int (nar .byte (c2_.toInt8.toInt32))), (.int (nar .byte (c3_.toInt8.toInt32))), (.int (nar .byte (c4_.toInt8.toInt32))), (.int (0 : Int32)), (.int (0 : Int32)), (.int (0 : Int32))] (.int (0 : Int32)) := Arv.set Aq14 Cq14 S14 M14 H14 G14 (fits_nar_byte _) W14 4 (by decide) (by show 4 < 8; decide)
  have K14 := K11.wr W14 (Or.inl (List.mem_of_getElem? (i := 0) rfl))
  have N14 := Fr.snoc X14 N11 g_b
  have Zs14 : n0 ≤ h14.size := by rw [W14.size]; exact Zs11
  refine OGo.st st14 ?_
  show OG p e below Φ T14 m 32 #[rv a, iv 4, rv b, iv 4, iv 8, iv 4, iv c4_] []
  refine OGo.st (fun _ kz => XS.iinc X14.here hx rfl (hb hby d6_32) rfl (l' := #[rv a, iv ((4 : Int32) + (1 : Int32)), rv b, iv 4, iv 8, iv 4, iv c4_]) rfl kz) ?_
  show OG p e below Φ T14 m 35 #[rv a, iv 5, rv b, iv 4, iv 8, iv 4, iv c4_] []
  refine OGo.st (fun _ kz => XS.iinc X14.here hx rfl (hb hby d6_35) rfl (l' := #[rv a, iv 5, rv b, iv ((4 : Int32) + (1 : Int32)), iv 8, iv 4, iv c4_]) rfl kz) ?_
  show OG p e below Φ T14 m 38 #[rv a, iv 5, rv b, iv 5, iv 8, iv 4, iv c4_] []
  refine OGo.st (fun _ kz => XS.iinc X14.here hx rfl (hb hby d6_38) rfl (l' := #[rv a, iv 5, rv b, iv 5, iv 8, iv ((4 : Int32) + (1 : Int32)), iv c4_]) rfl kz) ?_
  show OG p e below Φ T14 m 41 #[rv a, iv 5, rv b, iv 5, iv 8, iv 5, iv c4_] []
  refine OGo.st (fun _ kz => XS.goto X14.here hx rfl (pc0 := 41) (pc' := 3) rfl (hb hby d6_41) (by decide) (by decide) kz) ?_
  show OG p e below Φ T14 m 3 #[rv a, iv 5, rv b, iv 5, iv 8, iv 5, iv c4_] []
  refine OGo.st (fun _ kz => XS.iload X14.here hx rfl (hb hby d6_3) rfl kz) ?_
  show OG p e below Φ T14 m 5 #[rv a, iv 5, rv b, iv 5, iv 8, iv 5, iv c4_] [(.int 5)]
  refine OGo.st (fun _ kz => XS.iload X14.here hx rfl (hb hby d6_5) rfl kz) ?_
  show OG p e below Φ T14 m 7 #[rv a, iv 5, rv b, iv 5, iv 8, iv 5, iv c4_] [(.int 8), (.int 5)]
  refine OGo.st (fun _ kz => XS.icmpNo X14.here hx rfl (hb hby d6_7) rfl (XT.ii_ge_f (by decide)) kz) ?_
  show OG p e below Φ T14 m 10 #[rv a, iv 5, rv b, iv 5, iv 8, iv 5, iv c4_] []
  refine OGo.st (fun _ kz => XS.aloadN X14.here hx rfl (hb hby d6_10) rfl rfl kz) ?_
  show OG p e below Φ T14 m 11 #[rv a, iv 5, rv b, iv 5, iv 8, iv 5, iv c4_] [(.ref a)]
  refine OGo.st (fun _ kz => XS.iloadN X14.here hx rfl (hb hby d6_11) rfl kz) ?_
  show OG p e below Φ T14 m 12 #[rv a, iv 5, rv b, iv 5, iv 8, iv 5, iv c4_] [(.int 5), (.ref a)]
  obtain ⟨cl16, Aq16, -, S16, M16, H16, -⟩ := id F15
  have in16 : ¬ ((5 : Int32) < 0 ∨ cl16.slots.size ≤ (5 : Int32).toNatClampNeg) := inb_of S16 ⟨by decide, by decide⟩
  have at16 : cl16.slots[(5 : Int32).toNatClampNeg]? = some (.int c5_) := H16.at in16 rfl
  refine OGo.st (fun _ kz => X14.caload hx (by rw [e14]; exact Aq16.1) (State.isArrayOf_alike hZ.alike Aq16.2.1) Aq16.2.2 in16 at16 (g := (mkF m 12 #[rv a, iv 5, rv b, iv 5, iv 8, iv 5, iv c4_] [(.int 5), (.ref a)])) rfl rfl (hb hby d6_12) _ kz) ?_
  show OG p e below Φ T14 m 13 #[rv a, iv 5, rv b, iv 5, iv 8, iv 5, iv c4_] [(.int c5_)]
  refine OGo.st (fun _ kz => XS.istore X14.here hx rfl (hb hby d6_13) rfl (l' := #[rv a, iv 5, rv b, iv 5, iv 8, iv 5, iv c5_]) rfl kz) ?_
  show OG p e below Φ T14 m 15 #[rv a, iv 5, rv b, iv 5, iv 8, iv 5, iv c5_] []
  refine OGo.st (fun _ kz => XS.iload X14.here hx rfl (hb hby d6_15) rfl kz) ?_
  show OG p e below Φ T14 m 17 #[rv a, iv 5, rv b, iv 5, iv 8, iv 5, iv c5_] [(.int c5_)]
  refine OGo.st (fun _ kz => XS.sipush X14.here hx rfl (hb hby d6_17) kz) ?_
  show OG p e below Φ T14 m 20 #[rv a, iv 5, rv b, iv 5, iv 8, iv 5, iv c5_] [(.int 255), (.int c5_)]
  refine OGo.st (fun _ kz => XS.icmpYes X14.here hx rfl (pc0 := 20) (pc' := 26) rfl (hb hby d6_20) rfl (XT.ii_le_t hl5) (by decide) (by decide) kz) ?_
  show OG p e below Φ T14 m 26 #[rv a, iv 5, rv b, iv 5, iv 8, iv 5, iv c5_] []
  refine OGo.st (fun _ kz => XS.aloadN X14.here hx rfl (hb hby d6_26) rfl rfl kz) ?_
  show OG p e below Φ T14 m 27 #[rv a, iv 5, rv b, iv 5, iv 8, iv 5, iv c5_] [(.ref b)]
  refine OGo.st (fun _ kz => XS.iloadN X14.here hx rfl (hb hby d6_27) rfl kz) ?_
  show OG p e below Φ T14 m 28 #[rv a, iv 5, rv b, iv 5, iv 8, iv 5, iv c5_] [(.int 5), (.ref b)]
  refine OGo.st (fun _ kz => XS.iload X14.here hx rfl (hb hby d6_28) rfl kz) ?_
  show OG p e below Φ T14 m 30 #[rv a, iv 5, rv b, iv 5, iv 8, iv 5, iv c5_] [(.int c5_), (.int 5), (.ref b)]
  refine OGo.st (fun _ kz => XT.i2b X14.here hx rfl (hb hby d6_30) rfl kz) ?_
  show OG p e below Φ T14 m 31 #[rv a, iv 5, rv b, iv 5, iv 8, iv 5, iv c5_] [(.int (c5_.toInt8.toInt32)), (.int 5), (.ref b)]
  obtain ⟨cl17, Aq17, Cq17, S17, M17, H17, G17⟩ := id V14
  have in17 : ¬ ((5 : Int32) < 0 ∨ cl17.slots.size ≤ (5 : Int32).toNatClampNeg) := inb_of S17 ⟨by decide, by decide⟩
  obtain ⟨T17, h17, X17, e17, W17, st17⟩ := stB X14 hx hZ e14 Aq17 in17 (g := (mkF m 31 #[rv a, iv 5, rv b, iv 5, iv 8, iv 5, iv c5_] [(.int (c5_.toInt8.toInt32)), (.int 5), (.ref b)])) rfl rfl (hb hby d6_31)
  have W17 : Wr h14 h17 b (5 : Int32).toNatClampNeg (.int (nar .byte (c5_.toInt8.toInt32))) := W17
  have F18 := F15.other W17 nab
  have V17 : Arv Z h17 b cb .byte (8 : Int32) [(.int (nar .byte (c0_.toInt8.toInt32))), (.int (nar .byte (c1_.toInt8.toInt32))), (.int (nar .byte (c2_.toInt8.toInt32))), (.int (nar .byte (c3_.toInt8.toInt32))), (.int (nar .byte (c4_.toInt8.toInt32))), (.int (nar .byte (c5_.toInt8.toInt32))), (.int (0 : Int32)), (.int (0 : Int32))] (.int (0 : Int32)) := Arv.set Aq17 Cq17 S17 M17 H17 G17 (fits_nar_byte _) W17 5 (by decide) (by show 5 < 8; decide)
  have K17 := K14.wr W17 (Or.inl (List.mem_of_getElem? (i := 0) rfl))
  have N17 := Fr.snoc X17 N14 g_b
  have Zs17 : n0 ≤ h17.size := by rw [W17.size]; exact Zs14
  refine OGo.st st17 ?_
  show OG p e below Φ T17 m 32 #[rv a, iv 5, rv b, iv 5, iv 8, iv 5, iv c5_] []
  refine OGo.st (fun _ kz => XS.iinc X17.here hx rfl (hb hby d6_32) rfl (l' := #[rv a, iv ((5 : Int32) + (1 : Int32)), rv b, iv 5, iv 8, iv 5, iv c5_]) rfl kz) ?_
  show OG p e below Φ T17 m 35 #[rv a, iv 6, rv b, iv 5, iv 8, iv 5, iv c5_] []
  refine OGo.st (fun _ kz => XS.iinc X17.here hx rfl (hb hby d6_35) rfl (l' := #[rv a, iv 6, rv b, iv ((5 : Int32) + (1 : Int32)), iv 8, iv 5, iv c5_]) rfl kz) ?_
  show OG p e below Φ T17 m 38 #[rv a, iv 6, rv b, iv 6, iv 8, iv 5, iv c5_] []
  refine OGo.st (fun _ kz => XS.iinc X17.here hx rfl (hb hby d6_38) rfl (l' := #[rv a, iv 6, rv b, iv 6, iv 8, iv ((5 : Int32) + (1 : Int32)), iv c5_]) rfl kz) ?_
  show OG p e below Φ T17 m 41 #[rv a, iv 6, rv b, iv 6, iv 8, iv 6, iv c5_] []
  refine OGo.st (fun _ kz => XS.goto X17.here hx rfl (pc0 := 41) (pc' := 3) rfl (hb hby d6_41) (by decide) (by decide) kz) ?_
  show OG p e below Φ T17 m 3 #[rv a, iv 6, rv b, iv 6, iv 8, iv 6, iv c5_] []
  refine OGo.st (fun _ kz => XS.iload X17.here hx rfl (hb hby d6_3) rfl kz) ?_
  show OG p e below Φ T17 m 5 #[rv a, iv 6, rv b, iv 6, iv 8, iv 6, iv c5_] [(.int 6)]
  refine OGo.st (fun _ kz => XS.iload X17.here hx rfl (hb hby d6_5) rfl kz) ?_
  show OG p e below Φ T17 m 7 #[rv a, iv 6, rv b, iv 6, iv 8, iv 6, iv c5_] [(.int 8), (.int 6)]
  refine OGo.st (fun _ kz => XS.icmpNo X17.here hx rfl (hb hby d6_7) rfl (XT.ii_ge_f (by decide)) kz) ?_
  show OG p e below Φ T17 m 10 #[rv a, iv 6, rv b, iv 6, iv 8, iv 6, iv c5_] []
  refine OGo.st (fun _ kz => XS.aloadN X17.here hx rfl (hb hby d6_10) rfl rfl kz) ?_
  show OG p e below Φ T17 m 11 #[rv a, iv 6, rv b, iv 6, iv 8, iv 6, iv c5_] [(.ref a)]
  refine OGo.st (fun _ kz => XS.iloadN X17.here hx rfl (hb hby d6_11) rfl kz) ?_
  show OG p e below Φ T17 m 12 #[rv a, iv 6, rv b, iv 6, iv 8, iv 6, iv c5_] [(.int 6), (.ref a)]
  obtain ⟨cl19, Aq19, -, S19, M19, H19, -⟩ := id F18
  have in19 : ¬ ((6 : Int32) < 0 ∨ cl19.slots.size ≤ (6 : Int32).toNatClampNeg) := inb_of S19 ⟨by decide, by decide⟩
  have at19 : cl19.slots[(6 : Int32).toNatClampNeg]? = some (.int c6_) := H19.at in19 rfl
  refine OGo.st (fun _ kz => X17.caload hx (by rw [e17]; exact Aq19.1) (State.isArrayOf_alike hZ.alike Aq19.2.1) Aq19.2.2 in19 at19 (g := (mkF m 12 #[rv a, iv 6, rv b, iv 6, iv 8, iv 6, iv c5_] [(.int 6), (.ref a)])) rfl rfl (hb hby d6_12) _ kz) ?_
  show OG p e below Φ T17 m 13 #[rv a, iv 6, rv b, iv 6, iv 8, iv 6, iv c5_] [(.int c6_)]
  refine OGo.st (fun _ kz => XS.istore X17.here hx rfl (hb hby d6_13) rfl (l' := #[rv a, iv 6, rv b, iv 6, iv 8, iv 6, iv c6_]) rfl kz) ?_
  show OG p e below Φ T17 m 15 #[rv a, iv 6, rv b, iv 6, iv 8, iv 6, iv c6_] []
  refine OGo.st (fun _ kz => XS.iload X17.here hx rfl (hb hby d6_15) rfl kz) ?_
  show OG p e below Φ T17 m 17 #[rv a, iv 6, rv b, iv 6, iv 8, iv 6, iv c6_] [(.int c6_)]
  refine OGo.st (fun _ kz => XS.sipush X17.here hx rfl (hb hby d6_17) kz) ?_
  show OG p e below Φ T17 m 20 #[rv a, iv 6, rv b, iv 6, iv 8, iv 6, iv c6_] [(.int 255), (.int c6_)]
  refine OGo.st (fun _ kz => XS.icmpYes X17.here hx rfl (pc0 := 20) (pc' := 26) rfl (hb hby d6_20) rfl (XT.ii_le_t hl6) (by decide) (by decide) kz) ?_
  show OG p e below Φ T17 m 26 #[rv a, iv 6, rv b, iv 6, iv 8, iv 6, iv c6_] []
  refine OGo.st (fun _ kz => XS.aloadN X17.here hx rfl (hb hby d6_26) rfl rfl kz) ?_
  show OG p e below Φ T17 m 27 #[rv a, iv 6, rv b, iv 6, iv 8, iv 6, iv c6_] [(.ref b)]
  refine OGo.st (fun _ kz => XS.iloadN X17.here hx rfl (hb hby d6_27) rfl kz) ?_
  show OG p e below Φ T17 m 28 #[rv a, iv 6, rv b, iv 6, iv 8, iv 6, iv c6_] [(.int 6), (.ref b)]
  refine OGo.st (fun _ kz => XS.iload X17.here hx rfl (hb hby d6_28) rfl kz) ?_
  show OG p e below Φ T17 m 30 #[rv a, iv 6, rv b, iv 6, iv 8, iv 6, iv c6_] [(.int c6_), (.int 6), (.ref b)]
  refine OGo.st (fun _ kz => XT.i2b X17.here hx rfl (hb hby d6_30) rfl kz) ?_
  show OG p e below Φ T17 m 31 #[rv a, iv 6, rv b, iv 6, iv 8, iv 6, iv c6_] [(.int (c6_.toInt8.toInt32)), (.int 6), (.ref b)]
  obtain ⟨cl20, Aq20, Cq20, S20, M20, H20, G20⟩ := id V17
  have in20 : ¬ ((6 : Int32) < 0 ∨ cl20.slots.size ≤ (6 : Int32).toNatClampNeg) := inb_of S20 ⟨by decide, by decide⟩
  obtain ⟨T20, h20, X20, e20, W20, st20⟩ := stB X17 hx hZ e17 Aq20 in20 (g := (mkF m 31 #[rv a, iv 6, rv b, iv 6, iv 8, iv 6, iv c6_] [(.int (c6_.toInt8.toInt32)), (.int 6), (.ref b)])) rfl rfl (hb hby d6_31)
  have W20 : Wr h17 h20 b (6 : Int32).toNatClampNeg (.int (nar .byte (c6_.toInt8.toInt32))) := W20
  have F21 := F18.other W20 nab
  have V20 : Arv Z h20 b cb .byte (8 : Int32) [(.int (nar .byte (c0_.toInt8.toInt32))), (.int (nar .byte (c1_.toInt8.toInt32))), (.int (nar .byte (c2_.toInt8.toInt32))), (.int (nar .byte (c3_.toInt8.toInt32))), (.int (nar .byte (c4_.toInt8.toInt32))), (.int (nar .byte (c5_.toInt8.toInt32))), (.int (nar .byte (c6_.toInt8.toInt32))), (.int (0 : Int32))] (.int (0 : Int32)) := Arv.set Aq20 Cq20 S20 M20 H20 G20 (fits_nar_byte _) W20 6 (by decide) (by show 6 < 8; decide)
  have K20 := K17.wr W20 (Or.inl (List.mem_of_getElem? (i := 0) rfl))
  have N20 := Fr.snoc X20 N17 g_b
  have Zs20 : n0 ≤ h20.size := by rw [W20.size]; exact Zs17
  refine OGo.st st20 ?_
  show OG p e below Φ T20 m 32 #[rv a, iv 6, rv b, iv 6, iv 8, iv 6, iv c6_] []
  refine OGo.st (fun _ kz => XS.iinc X20.here hx rfl (hb hby d6_32) rfl (l' := #[rv a, iv ((6 : Int32) + (1 : Int32)), rv b, iv 6, iv 8, iv 6, iv c6_]) rfl kz) ?_
  show OG p e below Φ T20 m 35 #[rv a, iv 7, rv b, iv 6, iv 8, iv 6, iv c6_] []
  refine OGo.st (fun _ kz => XS.iinc X20.here hx rfl (hb hby d6_35) rfl (l' := #[rv a, iv 7, rv b, iv ((6 : Int32) + (1 : Int32)), iv 8, iv 6, iv c6_]) rfl kz) ?_
  show OG p e below Φ T20 m 38 #[rv a, iv 7, rv b, iv 7, iv 8, iv 6, iv c6_] []
  refine OGo.st (fun _ kz => XS.iinc X20.here hx rfl (hb hby d6_38) rfl (l' := #[rv a, iv 7, rv b, iv 7, iv 8, iv ((6 : Int32) + (1 : Int32)), iv c6_]) rfl kz) ?_
  show OG p e below Φ T20 m 41 #[rv a, iv 7, rv b, iv 7, iv 8, iv 7, iv c6_] []
  refine OGo.st (fun _ kz => XS.goto X20.here hx rfl (pc0 := 41) (pc' := 3) rfl (hb hby d6_41) (by decide) (by decide) kz) ?_
  show OG p e below Φ T20 m 3 #[rv a, iv 7, rv b, iv 7, iv 8, iv 7, iv c6_] []
  refine OGo.st (fun _ kz => XS.iload X20.here hx rfl (hb hby d6_3) rfl kz) ?_
  show OG p e below Φ T20 m 5 #[rv a, iv 7, rv b, iv 7, iv 8, iv 7, iv c6_] [(.int 7)]
  refine OGo.st (fun _ kz => XS.iload X20.here hx rfl (hb hby d6_5) rfl kz) ?_
  show OG p e below Φ T20 m 7 #[rv a, iv 7, rv b, iv 7, iv 8, iv 7, iv c6_] [(.int 8), (.int 7)]
  refine OGo.st (fun _ kz => XS.icmpNo X20.here hx rfl (hb hby d6_7) rfl (XT.ii_ge_f (by decide)) kz) ?_
  show OG p e below Φ T20 m 10 #[rv a, iv 7, rv b, iv 7, iv 8, iv 7, iv c6_] []
  refine OGo.st (fun _ kz => XS.aloadN X20.here hx rfl (hb hby d6_10) rfl rfl kz) ?_
  show OG p e below Φ T20 m 11 #[rv a, iv 7, rv b, iv 7, iv 8, iv 7, iv c6_] [(.ref a)]
  refine OGo.st (fun _ kz => XS.iloadN X20.here hx rfl (hb hby d6_11) rfl kz) ?_
  show OG p e below Φ T20 m 12 #[rv a, iv 7, rv b, iv 7, iv 8, iv 7, iv c6_] [(.int 7), (.ref a)]
  obtain ⟨cl22, Aq22, -, S22, M22, H22, -⟩ := id F21
  have in22 : ¬ ((7 : Int32) < 0 ∨ cl22.slots.size ≤ (7 : Int32).toNatClampNeg) := inb_of S22 ⟨by decide, by decide⟩
  have at22 : cl22.slots[(7 : Int32).toNatClampNeg]? = some (.int c7_) := H22.at in22 rfl
  refine OGo.st (fun _ kz => X20.caload hx (by rw [e20]; exact Aq22.1) (State.isArrayOf_alike hZ.alike Aq22.2.1) Aq22.2.2 in22 at22 (g := (mkF m 12 #[rv a, iv 7, rv b, iv 7, iv 8, iv 7, iv c6_] [(.int 7), (.ref a)])) rfl rfl (hb hby d6_12) _ kz) ?_
  show OG p e below Φ T20 m 13 #[rv a, iv 7, rv b, iv 7, iv 8, iv 7, iv c6_] [(.int c7_)]
  refine OGo.st (fun _ kz => XS.istore X20.here hx rfl (hb hby d6_13) rfl (l' := #[rv a, iv 7, rv b, iv 7, iv 8, iv 7, iv c7_]) rfl kz) ?_
  show OG p e below Φ T20 m 15 #[rv a, iv 7, rv b, iv 7, iv 8, iv 7, iv c7_] []
  refine OGo.st (fun _ kz => XS.iload X20.here hx rfl (hb hby d6_15) rfl kz) ?_
  show OG p e below Φ T20 m 17 #[rv a, iv 7, rv b, iv 7, iv 8, iv 7, iv c7_] [(.int c7_)]
  refine OGo.st (fun _ kz => XS.sipush X20.here hx rfl (hb hby d6_17) kz) ?_
  show OG p e below Φ T20 m 20 #[rv a, iv 7, rv b, iv 7, iv 8, iv 7, iv c7_] [(.int 255), (.int c7_)]
  refine OGo.st (fun _ kz => XS.icmpYes X20.here hx rfl (pc0 := 20) (pc' := 26) rfl (hb hby d6_20) rfl (XT.ii_le_t hl7) (by decide) (by decide) kz) ?_
  show OG p e below Φ T20 m 26 #[rv a, iv 7, rv b, iv 7, iv 8, iv 7, iv c7_] []
  refine OGo.st (fun _ kz => XS.aloadN X20.here hx rfl (hb hby d6_26) rfl rfl kz) ?_
  show OG p e below Φ T20 m 27 #[rv a, iv 7, rv b, iv 7, iv 8, iv 7, iv c7_] [(.ref b)]
  refine OGo.st (fun _ kz => XS.iloadN X20.here hx rfl (hb hby d6_27) rfl kz) ?_
  show OG p e below Φ T20 m 28 #[rv a, iv 7, rv b, iv 7, iv 8, iv 7, iv c7_] [(.int 7), (.ref b)]
  refine OGo.st (fun _ kz => XS.iload X20.here hx rfl (hb hby d6_28) rfl kz) ?_
  show OG p e below Φ T20 m 30 #[rv a, iv 7, rv b, iv 7, iv 8, iv 7, iv c7_] [(.int c7_), (.int 7), (.ref b)]
  refine OGo.st (fun _ kz => XT.i2b X20.here hx rfl (hb hby d6_30) rfl kz) ?_
  show OG p e below Φ T20 m 31 #[rv a, iv 7, rv b, iv 7, iv 8, iv 7, iv c7_] [(.int (c7_.toInt8.toInt32)), (.int 7), (.ref b)]
  obtain ⟨cl23, Aq23, Cq23, S23, M23, H23, G23⟩ := id V20
  have in23 : ¬ ((7 : Int32) < 0 ∨ cl23.slots.size ≤ (7 : Int32).toNatClampNeg) := inb_of S23 ⟨by decide, by decide⟩
  obtain ⟨T23, h23, X23, e23, W23, st23⟩ := stB X20 hx hZ e20 Aq23 in23 (g := (mkF m 31 #[rv a, iv 7, rv b, iv 7, iv 8, iv 7, iv c7_] [(.int (c7_.toInt8.toInt32)), (.int 7), (.ref b)])) rfl rfl (hb hby d6_31)
  have W23 : Wr h20 h23 b (7 : Int32).toNatClampNeg (.int (nar .byte (c7_.toInt8.toInt32))) := W23
  have F24 := F21.other W23 nab
  have V23 : Arv Z h23 b cb .byte (8 : Int32) [(.int (nar .byte (c0_.toInt8.toInt32))), (.int (nar .byte (c1_.toInt8.toInt32))), (.int (nar .byte (c2_.toInt8.toInt32))), (.int (nar .byte (c3_.toInt8.toInt32))), (.int (nar .byte (c4_.toInt8.toInt32))), (.int (nar .byte (c5_.toInt8.toInt32))), (.int (nar .byte (c6_.toInt8.toInt32))), (.int (nar .byte (c7_.toInt8.toInt32)))] (.int (0 : Int32)) := Arv.set Aq23 Cq23 S23 M23 H23 G23 (fits_nar_byte _) W23 7 (by decide) (by show 7 < 8; decide)
  have K23 := K20.wr W23 (Or.inl (List.mem_of_getElem? (i := 0) rfl))
  have N23 := Fr.snoc X23 N20 g_b
  have Zs23 : n0 ≤ h23.size := by rw [W23.size]; exact Zs20
  refine OGo.st st23 ?_
  show OG p e below Φ T23 m 32 #[rv a, iv 7, rv b, iv 7, iv 8, iv 7, iv c7_] []
  refine OGo.st (fun _ kz => XS.iinc X23.here hx rfl (hb hby d6_32) rfl (l' := #[rv a, iv ((7 : Int32) + (1 : Int32)), rv b, iv 7, iv 8, iv 7, iv c7_]) rfl kz) ?_
  show OG p e below Φ T23 m 35 #[rv a, iv 8, rv b, iv 7, iv 8, iv 7, iv c7_] []
  refine OGo.st (fun _ kz => XS.iinc X23.here hx rfl (hb hby d6_35) rfl (l' := #[rv a, iv 8, rv b, iv ((7 : Int32) + (1 : Int32)), iv 8, iv 7, iv c7_]) rfl kz) ?_
  show OG p e below Φ T23 m 38 #[rv a, iv 8, rv b, iv 8, iv 8, iv 7, iv c7_] []
  refine OGo.st (fun _ kz => XS.iinc X23.here hx rfl (hb hby d6_38) rfl (l' := #[rv a, iv 8, rv b, iv 8, iv 8, iv ((7 : Int32) + (1 : Int32)), iv c7_]) rfl kz) ?_
  show OG p e below Φ T23 m 41 #[rv a, iv 8, rv b, iv 8, iv 8, iv 8, iv c7_] []
  refine OGo.st (fun _ kz => XS.goto X23.here hx rfl (pc0 := 41) (pc' := 3) rfl (hb hby d6_41) (by decide) (by decide) kz) ?_
  show OG p e below Φ T23 m 3 #[rv a, iv 8, rv b, iv 8, iv 8, iv 8, iv c7_] []
  refine OGo.st (fun _ kz => XS.iload X23.here hx rfl (hb hby d6_3) rfl kz) ?_
  show OG p e below Φ T23 m 5 #[rv a, iv 8, rv b, iv 8, iv 8, iv 8, iv c7_] [(.int 8)]
  refine OGo.st (fun _ kz => XS.iload X23.here hx rfl (hb hby d6_5) rfl kz) ?_
  show OG p e below Φ T23 m 7 #[rv a, iv 8, rv b, iv 8, iv 8, iv 8, iv c7_] [(.int 8), (.int 8)]
  refine OGo.st (fun _ kz => XS.icmpYes X23.here hx rfl (pc0 := 7) (pc' := 44) rfl (hb hby d6_7) rfl (XT.ii_ge_t (by decide)) (by decide) (by decide) kz) ?_
  show OG p e below Φ T23 m 44 #[rv a, iv 8, rv b, iv 8, iv 8, iv 8, iv c7_] []
  refine OGo.st (fun _ kz => XS.iload X23.here hx rfl (hb hby d6_44) rfl kz) ?_
  show OG p e below Φ T23 m 46 #[rv a, iv 8, rv b, iv 8, iv 8, iv 8, iv c7_] [(.int 8)]
  refine OGo.fin X23 hlk (v := (some (.int 8))) (fun h => by rw [hret] at h; cases h) (by decide) (by decide) (fun fs hr => X23.ireturnOut hx hret rfl (by simp) (hb hby d6_46) hr) fun U eU hF => hΦ _ _ _ ?_ hF
  rw [eU, e23]
  show Q_rs8c2 Z a ca b cb c0_ c1_ c2_ c3_ c4_ c5_ c6_ c7_ h0 n0 _ _ _
  exact ⟨rfl, N23, K23, V23⟩

theorem ef_rs8c3 (m : MethodId) (x0 : Addr) (x1 : Int32) (x2 : Int32) : entryFrame m #[(.ref x0), (.int x1), (.int x2)] 6 = mkF m 0 #[.val (.ref x0), .val (.int x1), .val (.int x2), .unset, .unset, .unset] [] := by first | (simp [entryFrame, mkF, argsToLocals, Value.category]; done) | rfl
def Q_rs8c3 (Z : State) (a : Addr) (ca : ClassId) (c0_ : Int32) (c1_ : Int32) (c2_ : Int32) (c3_ : Int32) (c4_ : Int32) (c5_ : Int32) (c6_ : Int32) (c7_ : Int32) (h0 : Heap) (n0 : Nat) (v : Option Value) (h : Heap) (L : List Loc) : Prop := ∃ b cb, v = some (.ref b) ∧ Fr n0 L ∧ Keep h0 h [] ∧ Arv Z h b cb .byte (8 : Int32) [(.int (nar .byte (c0_.toInt8.toInt32))), (.int (nar .byte (c1_.toInt8.toInt32))), (.int (nar .byte (c2_.toInt8.toInt32))), (.int (nar .byte (c3_.toInt8.toInt32))), (.int (nar .byte (c4_.toInt8.toInt32))), (.int (nar .byte (c5_.toInt8.toInt32))), (.int (nar .byte (c6_.toInt8.toInt32))), (.int (nar .byte (c7_.toInt8.toInt32)))] (.int (0 : Int32)) ∧ h0.size ≤ b
set_option maxRecDepth 65536 in
set_option maxHeartbeats 40000000 in
theorem rs8c3 (l : Launch) (Z : State) (a0 : Array Value) (hw : ∀ d ∈ tables_1, d.before a0 Z = true) (ws : List Jvm.Cond) (a : Addr) (ca : ClassId) (c0_ : Int32) (c1_ : Int32) (c2_ : Int32) (c3_ : Int32) (c4_ : Int32) (c5_ : Int32) (c6_ : Int32) (c7_ : Int32) (h0 : Heap) (n0 : Nat) (Z0 : n0 ≤ h0.size) (V_a : Arv Z h0 a ca .char (8 : Int32) [(.int c0_), (.int c1_), (.int c2_), (.int c3_), (.int c4_), (.int c5_), (.int c6_), (.int c7_)] (.int (0 : Int32))) (hl0 : ¬ (255 : Int32) < c0_) (hl1 : ¬ (255 : Int32) < c1_) (hl2 : ¬ (255 : Int32) < c2_) (hl3 : ¬ (255 : Int32) < c3_) (hl4 : ¬ (255 : Int32) < c4_) (hl5 : ¬ (255 : Int32) < c5_) (hl6 : ¬ (255 : Int32) < c6_) (hl7 : ¬ (255 : Int32) < c7_) :
    OCon l Z (⟨"java/lang/StringUTF16", "compress", "([CII)[B"⟩ : MethodName) jdk_52_method_16_code 6 (some (.array .byte)) ws ({ frames := 1, cells := 1, slots := 8, locals := 18 } : Room) #[(.ref a), (.int (0 : Int32)), (.int (8 : Int32))] h0 (Q_rs8c3 Z a ca c0_ c1_ c2_ c3_ c4_ c5_ c6_ c7_ h0 n0) := by
  refine OCon.of (plainFor_of_name pn3) ?_
  intro p e s m below meth c s₁ Φ X0 hx hby hml hown hnm hret hlk hZ e0 hΦ
  have N0 := Fr.nil n0
  refine OGo.st (fun _ kz => castTop (ef_rs8c3 m a (0 : Int32) (8 : Int32)) kz) ?_
  have K0 := Keep.refl h0 []
  show OG p e below Φ s₁ m 0 #[rv a, iv 0, iv 8, .unset, .unset, .unset] []
  refine OGo.st (fun _ kz => XS.iloadN X0.here hx rfl (hb hby d5_0) rfl kz) ?_
  show OG p e below Φ s₁ m 1 #[rv a, iv 0, iv 8, .unset, .unset, .unset] [(.int 8)]
  obtain ⟨T1, h1, c1, X1, e1, E1, Ar1, st1⟩ := newP (aty := .byte) X0 hx hZ (ow0 hw) e0 (g := (mkF m 1 #[rv a, iv 0, iv 8, .unset, .unset, .unset] [(.int 8)])) rfl (hb hby d5_1) rfl (by decide) (cap := 8) (by decide) (by decide) (by decide) (by decide)
  obtain ⟨b1, g1⟩ : ∃ z, z = h0.size := ⟨_, rfl⟩
  rw [← g1] at Ar1 st1
  have ne1_a : a ≠ b1 := by rw [g1]; exact Nat.ne_of_lt V_a.lt
  have F2 := V_a.ext E1
  have gb1 : n0 ≤ b1 := Nat.le_trans Z0 (Nat.le_of_eq g1.symm)
  have sz1 : h0.size ≤ b1 := Nat.le_trans K0.1 (Nat.le_of_eq g1.symm)
  have K1 := K0.ext E1
  have Zs1 : n0 ≤ h1.size := Nat.le_trans Z0 E1.1
  have V1 : Arv Z h1 b1 c1 .byte (8 : Int32) [(.int (0 : Int32)), (.int (0 : Int32)), (.int (0 : Int32)), (.int (0 : Int32)), (.int (0 : Int32)), (.int (0 : Int32)), (.int (0 : Int32)), (.int (0 : Int32))] (.int (0 : Int32)) := (Arv.new Ar1 (by decide)).pad (pad_rep [] _ 8)
  refine OGo.st st1 ?_
  show OG p e below Φ T1 m 3 #[rv a, iv 0, iv 8, .unset, .unset, .unset] [(.ref b1)]
  refine OGo.st (fun _ kz => XS.astoreN X1.here hx rfl (hb hby d5_3) rfl rfl (l' := #[rv a, iv 0, iv 8, rv b1, .unset, .unset]) rfl kz) ?_
  show OG p e below Φ T1 m 4 #[rv a, iv 0, iv 8, rv b1, .unset, .unset] []
  refine OGo.st (fun _ kz => XS.aloadN X1.here hx rfl (hb hby d5_4) rfl rfl kz) ?_
  show OG p e below Φ T1 m 5 #[rv a, iv 0, iv 8, rv b1, .unset, .unset] [(.ref a)]
  refine OGo.st (fun _ kz => XS.iloadN X1.here hx rfl (hb hby d5_5) rfl kz) ?_
  show OG p e below Φ T1 m 6 #[rv a, iv 0, iv 8, rv b1, .unset, .unset] [(.int 0), (.ref a)]
  refine OGo.st (fun _ kz => XS.aloadN X1.here hx rfl (hb hby d5_6) rfl rfl kz) ?_
  show OG p e below Φ T1 m 7 #[rv a, iv 0, iv 8, rv b1, .unset, .unset] [(.ref b1), (.int 0), (.ref a)]
  refine OGo.st (fun _ kz => XS.iconst X1.here hx rfl (hb hby d5_7) kz) ?_
  show OG p e below Φ T1 m 8 #[rv a, iv 0, iv 8, rv b1, .unset, .unset] [(.int 0), (.ref b1), (.int 0), (.ref a)]
  refine OGo.st (fun _ kz => XS.iloadN X1.here hx rfl (hb hby d5_8) rfl kz) ?_
  show OG p e below Φ T1 m 9 #[rv a, iv 0, iv 8, rv b1, .unset, .unset] [(.int 8), (.int 0), (.ref b1), (.int 0), (.ref a)]
  obtain ⟨_, T3, L3, X3, hQ3, st3⟩ := own_callSt X1 hx hZ hown (ow24 hw) (ow25 hw) (ow22 hw) (ow26 hw) (by decide) (rs8c2 l Z a0 hw [] a ca b1 c1 c0_ c1_ c2_ c3_ c4_ c5_ c6_ c7_ h1 n0 Zs1 F2 V1 ne1_a gb1 hl0 hl1 hl2 hl3 hl4 hl5 hl6 hl7) e1 (W := 0) (by decide) (by decide) (by decide) (by decide) (pc := 9) (ls := #[rv a, iv 0, iv 8, rv b1, .unset, .unset]) (stk := [(.int 8), (.int 0), (.ref b1), (.int 0), (.ref a)]) (by rw [hml]; rfl) (argsL := [(.ref a), (.int 0), (.ref b1), (.int 0), (.int 8)]) (rest := []) (lenOf pd1 rfl) rfl rfl (Nat.le_of_eq rfl) (hb hby d5_9)
  obtain ⟨rfl, Nq3, Kq3, Vq3⟩ := hQ3
  have N3 := Fr.app N0 Nq3
  have Zs3 : n0 ≤ T3.heap.size := Nat.le_trans Zs1 Kq3.1
  have F4 := F2.keep Kq3 (ninS ne1_a nin0)
  have K3 := K1.trans Kq3 (allS (Or.inr sz1) all0)
  refine OGo.st st3 ?_
  show OG p e below Φ T3 m 12 #[rv a, iv 0, iv 8, rv b1, .unset, .unset] [(.int 8)]
  refine OGo.st (fun _ kz => XS.istore X3.here hx rfl (hb hby d5_12) rfl (l' := #[rv a, iv 0, iv 8, rv b1, iv 8, .unset]) rfl kz) ?_
  show OG p e below Φ T3 m 14 #[rv a, iv 0, iv 8, rv b1, iv 8, .unset] []
  refine OGo.st (fun _ kz => XS.iload X3.here hx rfl (hb hby d5_14) rfl kz) ?_
  show OG p e below Φ T3 m 16 #[rv a, iv 0, iv 8, rv b1, iv 8, .unset] [(.int 8)]
  refine OGo.st (fun _ kz => XS.iloadN X3.here hx rfl (hb hby d5_16) rfl kz) ?_
  show OG p e below Φ T3 m 17 #[rv a, iv 0, iv 8, rv b1, iv 8, .unset] [(.int 8), (.int 8)]
  refine OGo.st (fun _ kz => XS.icmpYes X3.here hx rfl (pc0 := 17) (pc' := 57) rfl (hb hby d5_17) rfl (XT.ii_eq_t (by decide)) (by decide) (by decide) kz) ?_
  show OG p e below Φ T3 m 57 #[rv a, iv 0, iv 8, rv b1, iv 8, .unset] []
  refine OGo.st (fun _ kz => XS.aloadN X3.here hx rfl (hb hby d5_57) rfl rfl kz) ?_
  show OG p e below Φ T3 m 58 #[rv a, iv 0, iv 8, rv b1, iv 8, .unset] [(.ref b1)]
  refine OGo.fin X3 hlk (v := (some (.ref b1))) (fun h => by rw [hret] at h; cases h) (by decide) (by decide) (fun fs hr => X3.areturnOut hx rfl hret rfl (hb hby d5_58) hr) fun U eU hF => hΦ _ _ _ ?_ hF
  rw [eU]
  show Q_rs8c3 Z a ca c0_ c1_ c2_ c3_ c4_ c5_ c6_ c7_ h0 n0 _ _ _
  exact ⟨_, _, rfl, N3, K3, Vq3, sz1⟩

theorem ef_rs8cf (m : MethodId) (x0 : Addr) (x1 : Int32) : entryFrame m #[(.ref x0), (.int x1)] 2 = mkF m 0 #[.val (.ref x0), .val (.int x1)] [] := by first | (simp [entryFrame, mkF, argsToLocals, Value.category]; done) | rfl
def Q_rs8cf (Z : State) (b : Addr) (cb : ClassId) (c0_ : Int32) (c1_ : Int32) (c2_ : Int32) (c3_ : Int32) (c4_ : Int32) (c5_ : Int32) (c6_ : Int32) (c7_ : Int32) (h0 : Heap) (n0 : Nat) (v : Option Value) (h : Heap) (L : List Loc) : Prop := v = some (.int (0 : Int32)) ∧ Fr n0 L ∧ h = h0
set_option maxRecDepth 65536 in
set_option maxHeartbeats 40000000 in
theorem rs8cf (l : Launch) (Z : State) (a0 : Array Value) (hw : ∀ d ∈ tables_1, d.before a0 Z = true) (ws : List Jvm.Cond) (b : Addr) (cb : ClassId) (c0_ : Int32) (c1_ : Int32) (c2_ : Int32) (c3_ : Int32) (c4_ : Int32) (c5_ : Int32) (c6_ : Int32) (c7_ : Int32) (h0 : Heap) (n0 : Nat) (Z0 : n0 ≤ h0.size) (V_b : Arv Z h0 b cb .byte (8 : Int32) [(.int (nar .byte (c0_.toInt8.toInt32))), (.int (nar .byte (c1_.toInt8.toInt32))), (.int (nar .byte (c2_.toInt8.toInt32))), (.int (nar .byte (c3_.toInt8.toInt32))), (.int (nar .byte (c4_.toInt8.toInt32))), (.int (nar .byte (c5_.toInt8.toInt32))), (.int (nar .byte (c6_.toInt8.toInt32))), (.int (nar .byte (c7_.toInt8.toInt32)))] (.int (0 : Int32))) :
    OCon l Z (⟨"java/lang/StringUTF16", "coderFromArrayLen", "([BI)B"⟩ : MethodName) jdk_52_method_15_code 2 (some .byte) ws ({ frames := 0, cells := 0, slots := 0, locals := 0 } : Room) #[(.ref b), (.int (8 : Int32))] h0 (Q_rs8cf Z b cb c0_ c1_ c2_ c3_ c4_ c5_ c6_ c7_ h0 n0) := by
  refine OCon.of (plainFor_of_name pn3) ?_
  intro p e s m below meth c s₁ Φ X0 hx hby hml hown hnm hret hlk hZ e0 hΦ
  have N0 := Fr.nil n0
  refine OGo.st (fun _ kz => castTop (ef_rs8cf m b (8 : Int32)) kz) ?_
  show OG p e below Φ s₁ m 0 #[rv b, iv 8] []
  refine OGo.st (fun _ kz => XS.iloadN X0.here hx rfl (hb hby d7_0) rfl kz) ?_
  show OG p e below Φ s₁ m 1 #[rv b, iv 8] [(.int 8)]
  refine OGo.st (fun _ kz => XS.aloadN X0.here hx rfl (hb hby d7_1) rfl rfl kz) ?_
  show OG p e below Φ s₁ m 2 #[rv b, iv 8] [(.ref b), (.int 8)]
  obtain ⟨cl1, Aq1, -, S1, M1, -, -⟩ := id V_b
  refine OGo.st (fun _ kz => X0.arraylength hx (by rw [e0]; exact Aq1.1) (State.isArrayOf_alike hZ.alike Aq1.2.1) (g := (mkF m 2 #[rv b, iv 8] [(.ref b), (.int 8)])) rfl rfl (hb hby d7_2) _ kz) ?_
  rw [len_of S1 M1]
  show OG p e below Φ s₁ m 3 #[rv b, iv 8] [(.int 8), (.int 8)]
  refine OGo.st (fun _ kz => XS.isub X0.here hx rfl (hb hby d7_3) rfl kz) ?_
  show OG p e below Φ s₁ m 4 #[rv b, iv 8] [(.int 0)]
  refine OGo.st (fun _ kz => XS.bipush X0.here hx rfl (hb hby d7_4) kz) ?_
  show OG p e below Φ s₁ m 6 #[rv b, iv 8] [(.int 31), (.int 0)]
  refine OGo.st (fun _ kz => XT.iushr X0.here hx rfl (hb hby d7_6) rfl kz) ?_
  show OG p e below Φ s₁ m 7 #[rv b, iv 8] [(.int 0)]
  refine OGo.st (fun _ kz => XT.i2b X0.here hx rfl (hb hby d7_7) rfl kz) ?_
  show OG p e below Φ s₁ m 8 #[rv b, iv 8] [(.int 0)]
  refine OGo.fin X0 hlk (v := (some (.int 0))) (fun h => by rw [hret] at h; cases h) (by decide) (by decide) (fun fs hr => X0.ireturnOut hx hret rfl (by simp) (hb hby d7_8) hr) fun U eU hF => hΦ _ _ _ ?_ hF
  rw [eU, e0]
  show Q_rs8cf Z b cb c0_ c1_ c2_ c3_ c4_ c5_ c6_ c7_ h0 n0 _ _ _
  exact ⟨rfl, N0, rfl⟩

theorem ef_rs8i4 (m : MethodId) (x0 : Addr) (x1 : Addr) (x2 : Int32) (x3 : Int32) : entryFrame m #[(.ref x0), (.ref x1), (.int x2), (.int x3), .null] 6 = mkF m 0 #[.val (.ref x0), .val (.ref x1), .val (.int x2), .val (.int x3), .val .null, .unset] [] := by first | (simp [entryFrame, mkF, argsToLocals, Value.category]; done) | rfl
def Q_rs8i4 (Z : State) (s_ : Addr) (a : Addr) (ca : ClassId) (qc : Int32) (c0_ : Int32) (c1_ : Int32) (c2_ : Int32) (c3_ : Int32) (c4_ : Int32) (c5_ : Int32) (c6_ : Int32) (c7_ : Int32) (h0 : Heap) (n0 : Nat) (v : Option Value) (h : Heap) (L : List Loc) : Prop := v = none ∧ Fr n0 L ∧ Keep h0 h [s_] ∧ Exa Z h s_ "java/lang/String" ∧ ∃ b cb, Fld Z h s_ "java/lang/String" "value" "[B" (.ref b) ∧ Fld Z h s_ "java/lang/String" "coder" "B" (.int (0 : Int32)) ∧ Arv Z h b cb .byte (8 : Int32) [(.int (nar .byte (c0_.toInt8.toInt32))), (.int (nar .byte (c1_.toInt8.toInt32))), (.int (nar .byte (c2_.toInt8.toInt32))), (.int (nar .byte (c3_.toInt8.toInt32))), (.int (nar .byte (c4_.toInt8.toInt32))), (.int (nar .byte (c5_.toInt8.toInt32))), (.int (nar .byte (c6_.toInt8.toInt32))), (.int (nar .byte (c7_.toInt8.toInt32)))] (.int (0 : Int32)) ∧ h0.size ≤ b
set_option maxRecDepth 65536 in
set_option maxHeartbeats 40000000 in
theorem rs8i4 (l : Launch) (Z : State) (a0 : Array Value) (hw : ∀ d ∈ tables_1, d.before a0 Z = true) (ws : List Jvm.Cond) (s_ : Addr) (a : Addr) (ca : ClassId) (qc : Int32) (c0_ : Int32) (c1_ : Int32) (c2_ : Int32) (c3_ : Int32) (c4_ : Int32) (c5_ : Int32) (c6_ : Int32) (c7_ : Int32) (h0 : Heap) (n0 : Nat) (Z0 : n0 ≤ h0.size) (E_s : Exa Z h0 s_ "java/lang/String") (g_s : n0 ≤ s_) (F_v : Fld Z h0 s_ "java/lang/String" "value" "[B" .null) (F_c : Fld Z h0 s_ "java/lang/String" "coder" "B" (.int (0 : Int32))) (V_a : Arv Z h0 a ca .char (8 : Int32) [(.int c0_), (.int c1_), (.int c2_), (.int c3_), (.int c4_), (.int c5_), (.int c6_), (.int c7_)] (.int (0 : Int32))) (nsa : s_ ≠ a) (S_q : Sta Z h0 "java/lang/String" "COMPACT_STRINGS" "Z" (.int qc)) (hq : ¬ qc = 0) (hl0 : ¬ (255 : Int32) < c0_) (hl1 : ¬ (255 : Int32) < c1_) (hl2 : ¬ (255 : Int32) < c2_) (hl3 : ¬ (255 : Int32) < c3_) (hl4 : ¬ (255 : Int32) < c4_) (hl5 : ¬ (255 : Int32) < c5_) (hl6 : ¬ (255 : Int32) < c6_) (hl7 : ¬ (255 : Int32) < c7_) :
    OCon l Z (⟨"java/lang/String", "<init>", "([CIILjava/lang/Void;)V"⟩ : MethodName) jdk_42_method_149_code 6 none ws ({ frames := 2, cells := 1, slots := 8, locals := 35 } : Room) #[(.ref s_), (.ref a), (.int (0 : Int32)), (.int (8 : Int32)), .null] h0 (Q_rs8i4 Z s_ a ca qc c0_ c1_ c2_ c3_ c4_ c5_ c6_ c7_ h0 n0) := by
  refine OCon.of (plainFor_of_name pn0) ?_
  intro p e s m below meth c s₁ Φ X0 hx hby hml hown hnm hret hlk hZ e0 hΦ
  have N0 := Fr.nil n0
  refine OGo.st (fun _ kz => castTop (ef_rs8i4 m s_ a (0 : Int32) (8 : Int32)) kz) ?_
  have K0 := Keep.refl h0 [s_]
  show OG p e below Φ s₁ m 0 #[rv s_, rv a, iv 0, iv 8, .val .null, .unset] []
  refine OGo.st (fun _ kz => XS.aloadN X0.here hx rfl (hb hby d3_0) rfl rfl kz) ?_
  show OG p e below Φ s₁ m 1 #[rv s_, rv a, iv 0, iv 8, .val .null, .unset] [(.ref s_)]
  obtain ⟨T1, X1, e1, st1⟩ := initO X0 hx hZ hown (ow16 hw) (ow17 hw) (ow18 hw) e0 (g := (mkF m 1 #[rv s_, rv a, iv 0, iv 8, .val .null, .unset] [(.ref s_)])) rfl (by rw [hml]; rfl) rfl (hb hby d3_1) (by decide) (W := 0) (Nat.le_of_eq rfl) (by decide)
  refine OGo.st st1 ?_
  show OG p e below Φ T1 m 4 #[rv s_, rv a, iv 0, iv 8, .val .null, .unset] []
  refine OGo.st (fun _ kz => XS.iloadN X1.here hx rfl (hb hby d3_4) rfl kz) ?_
  show OG p e below Φ T1 m 5 #[rv s_, rv a, iv 0, iv 8, .val .null, .unset] [(.int 8)]
  refine OGo.st (fun _ kz => XS.ifYes X1.here hx rfl (pc0 := 5) (pc' := 27) rfl (hb hby d3_5) rfl (XT.i0_ne_t (by decide)) (by decide) (by decide) kz) ?_
  show OG p e below Φ T1 m 27 #[rv s_, rv a, iv 0, iv 8, .val .null, .unset] []
  obtain ⟨T2, X2, e2, st2⟩ := getS2 X1 hx hZ hown (host := "") (Or.inl (ow19 hw)) Via.refl e1 S_q (g := (mkF m 27 #[rv s_, rv a, iv 0, iv 8, .val .null, .unset] [])) rfl (hb hby d3_27)
  refine OGo.st st2 ?_
  show OG p e below Φ T2 m 30 #[rv s_, rv a, iv 0, iv 8, .val .null, .unset] [(.int qc)]
  refine OGo.st (fun _ kz => XS.ifNo X2.here hx rfl (hb hby d3_30) rfl (XT.i0_eq_f hq) kz) ?_
  show OG p e below Φ T2 m 33 #[rv s_, rv a, iv 0, iv 8, .val .null, .unset] []
  refine OGo.st (fun _ kz => XS.aloadN X2.here hx rfl (hb hby d3_33) rfl rfl kz) ?_
  show OG p e below Φ T2 m 34 #[rv s_, rv a, iv 0, iv 8, .val .null, .unset] [(.ref a)]
  refine OGo.st (fun _ kz => XS.iloadN X2.here hx rfl (hb hby d3_34) rfl kz) ?_
  show OG p e below Φ T2 m 35 #[rv s_, rv a, iv 0, iv 8, .val .null, .unset] [(.int 0), (.ref a)]
  refine OGo.st (fun _ kz => XS.iloadN X2.here hx rfl (hb hby d3_35) rfl kz) ?_
  show OG p e below Φ T2 m 36 #[rv s_, rv a, iv 0, iv 8, .val .null, .unset] [(.int 8), (.int 0), (.ref a)]
  obtain ⟨_, T3, L3, X3, hQ3, st3⟩ := own_callSt X2 hx hZ hown (ow20 hw) (ow21 hw) (ow22 hw) (ow23 hw) (by decide) (rs8c3 l Z a0 hw [] a ca c0_ c1_ c2_ c3_ c4_ c5_ c6_ c7_ h0 n0 Z0 V_a hl0 hl1 hl2 hl3 hl4 hl5 hl6 hl7) e2 (W := 0) (by decide) (by decide) (by decide) (by decide) (pc := 36) (ls := #[rv s_, rv a, iv 0, iv 8, .val .null, .unset]) (stk := [(.int 8), (.int 0), (.ref a)]) (by rw [hml]; rfl) (argsL := [(.ref a), (.int 0), (.int 8)]) (rest := []) (lenOf pd2 rfl) rfl rfl (Nat.le_of_eq rfl) (hb hby d3_36)
  obtain ⟨b3, cb3, rfl, Nq3, Kq3, Vq3, hz3⟩ := hQ3
  have nq3_a : a ≠ b3 := Nat.ne_of_lt (Nat.lt_of_lt_of_le V_a.lt hz3)
  have nq3_s_ : s_ ≠ b3 := Nat.ne_of_lt (Nat.lt_of_lt_of_le E_s.lt hz3)
  have gq3 : n0 ≤ b3 := Nat.le_trans Z0 hz3
  have sq3 : h0.size ≤ b3 := Nat.le_trans K0.1 hz3
  have N3 := Fr.app N0 Nq3
  have Zs3 : n0 ≤ T3.heap.size := Nat.le_trans Z0 Kq3.1
  have F4 := E_s.keep Kq3
  have F5 := F_v.keep Kq3 nin0
  have F6 := F_c.keep Kq3 nin0
  have F7 := V_a.keep Kq3 nin0
  have K3 := K0.trans Kq3 all0
  refine OGo.st st3 ?_
  show OG p e below Φ T3 m 39 #[rv s_, rv a, iv 0, iv 8, .val .null, .unset] [(.ref b3)]
  refine OGo.st (fun _ kz => XS.astore X3.here hx rfl (hb hby d3_39) rfl rfl (l' := #[rv s_, rv a, iv 0, iv 8, .val .null, rv b3]) rfl kz) ?_
  show OG p e below Φ T3 m 41 #[rv s_, rv a, iv 0, iv 8, .val .null, rv b3] []
  refine OGo.st (fun _ kz => XS.aloadN X3.here hx rfl (hb hby d3_41) rfl rfl kz) ?_
  show OG p e below Φ T3 m 42 #[rv s_, rv a, iv 0, iv 8, .val .null, rv b3] [(.ref s_)]
  refine OGo.st (fun _ kz => XS.aload X3.here hx rfl (hb hby d3_42) rfl rfl kz) ?_
  show OG p e below Φ T3 m 44 #[rv s_, rv a, iv 0, iv 8, .val .null, rv b3] [(.ref b3), (.ref s_)]
  refine OGo.st (fun _ kz => XS.iloadN X3.here hx rfl (hb hby d3_44) rfl kz) ?_
  show OG p e below Φ T3 m 45 #[rv s_, rv a, iv 0, iv 8, .val .null, rv b3] [(.int 8), (.ref b3), (.ref s_)]
  obtain ⟨_, T8, L8, X8, hQ8, st8⟩ := own_callSt X3 hx hZ hown (ow27 hw) (ow28 hw) (ow22 hw) (ow29 hw) (by decide) (rs8cf l Z a0 hw [] b3 cb3 c0_ c1_ c2_ c3_ c4_ c5_ c6_ c7_ T3.heap n0 Zs3 Vq3) rfl (W := 1) (by decide) (by decide) (by decide) (by decide) (pc := 45) (ls := #[rv s_, rv a, iv 0, iv 8, .val .null, rv b3]) (stk := [(.int 8), (.ref b3), (.ref s_)]) (by rw [hml]; rfl) (argsL := [(.ref b3), (.int 8)]) (rest := [(.ref s_)]) (lenOf pd3 rfl) rfl rfl (Nat.le_of_eq rfl) (hb hby d3_45)
  obtain ⟨rfl, Nq8, e8⟩ := hQ8
  have N8 := Fr.app N3 Nq8
  refine OGo.st st8 ?_
  show OG p e below Φ T8 m 48 #[rv s_, rv a, iv 0, iv 8, .val .null, rv b3] [(.int 0), (.ref s_)]
  obtain ⟨T9, h9, X9, e9, W9, st9⟩ := putF X8 hx hZ hown (host := "") (Or.inl (ow30 hw)) Via.refl e8 F6 F4 (Or.inr ⟨(ow31 hw), rfl, hnm⟩) (ow7 hw) (ty := .byte) (by decide) (by decide) (by decide) (g := (mkF m 48 #[rv s_, rv a, iv 0, iv 8, .val .null, rv b3] [(.int 0), (.ref s_)])) rfl rfl (hb hby d3_48)
  have F10 := F4.wr W9
  have F11 := F5.other W9 (Or.inr (slot_ne (Or.inr (ow33 hw)) (Or.inr (ow31 hw)) (by decide) (t := (.array .byte)) (t' := .byte) (by decide) (by decide)))
  have F12 := F6.same W9
  have F13 := F7.other W9 (Ne.symm nsa)
  have F14 := Vq3.other W9 (Ne.symm nq3_s_)
  have K9 := K3.wr W9 (Or.inl (List.mem_of_getElem? (i := 0) rfl))
  have N9 := Fr.snoc X9 N8 g_s
  have Zs9 : n0 ≤ h9.size := by rw [W9.size]; exact Zs3
  refine OGo.st st9 ?_
  show OG p e below Φ T9 m 51 #[rv s_, rv a, iv 0, iv 8, .val .null, rv b3] []
  refine OGo.st (fun _ kz => XS.aloadN X9.here hx rfl (hb hby d3_51) rfl rfl kz) ?_
  show OG p e below Φ T9 m 52 #[rv s_, rv a, iv 0, iv 8, .val .null, rv b3] [(.ref s_)]
  refine OGo.st (fun _ kz => XS.aload X9.here hx rfl (hb hby d3_52) rfl rfl kz) ?_
  show OG p e below Φ T9 m 54 #[rv s_, rv a, iv 0, iv 8, .val .null, rv b3] [(.ref b3), (.ref s_)]
  obtain ⟨T15, h15, X15, e15, W15, st15⟩ := putF X9 hx hZ hown (host := "") (Or.inl (ow32 hw)) Via.refl e9 F11 F10 (Or.inr ⟨(ow33 hw), rfl, hnm⟩) (ow7 hw) (ty := (.array .byte)) (by decide) rfl rfl (g := (mkF m 54 #[rv s_, rv a, iv 0, iv 8, .val .null, rv b3] [(.ref b3), (.ref s_)])) rfl rfl (hb hby d3_54)
  have F16 := F10.wr W15
  have F17 := F11.same W15
  have F18 := F12.other W15 (Or.inr (slot_ne (Or.inr (ow31 hw)) (Or.inr (ow33 hw)) (by decide) (t := .byte) (t' := (.array .byte)) (by decide) (by decide)))
  have F19 := F13.other W15 (Ne.symm nsa)
  have F20 := F14.other W15 (Ne.symm nq3_s_)
  have K15 := K9.wr W15 (Or.inl (List.mem_of_getElem? (i := 0) rfl))
  have N15 := Fr.snoc X15 N9 g_s
  have Zs15 : n0 ≤ h15.size := by rw [W15.size]; exact Zs9
  refine OGo.st st15 ?_
  show OG p e below Φ T15 m 57 #[rv s_, rv a, iv 0, iv 8, .val .null, rv b3] []
  refine OGo.fin X15 hlk (v := none) (fun _ => rfl) (by decide) (by decide) (fun fs hr => X15.returnOut hx hret (hb hby d3_57) hr) fun U eU hF => hΦ _ _ _ ?_ hF
  rw [eU, e15]
  show Q_rs8i4 Z s_ a ca qc c0_ c1_ c2_ c3_ c4_ c5_ c6_ c7_ h0 n0 _ _ _
  exact ⟨rfl, N15, K15, F16, _, _, F17, F18, F20, sq3⟩

theorem ef_rs8i1 (m : MethodId) (x0 : Addr) (x1 : Addr) : entryFrame m #[(.ref x0), (.ref x1)] 2 = mkF m 0 #[.val (.ref x0), .val (.ref x1)] [] := by first | (simp [entryFrame, mkF, argsToLocals, Value.category]; done) | rfl
def Q_rs8i1 (Z : State) (s_ : Addr) (a : Addr) (ca : ClassId) (qc : Int32) (c0_ : Int32) (c1_ : Int32) (c2_ : Int32) (c3_ : Int32) (c4_ : Int32) (c5_ : Int32) (c6_ : Int32) (c7_ : Int32) (h0 : Heap) (n0 : Nat) (v : Option Value) (h : Heap) (L : List Loc) : Prop := v = none ∧ Fr n0 L ∧ Keep h0 h [s_] ∧ Exa Z h s_ "java/lang/String" ∧ ∃ b cb, Fld Z h s_ "java/lang/String" "value" "[B" (.ref b) ∧ Fld Z h s_ "java/lang/String" "coder" "B" (.int (0 : Int32)) ∧ Arv Z h b cb .byte (8 : Int32) [(.int (nar .byte (c0_.toInt8.toInt32))), (.int (nar .byte (c1_.toInt8.toInt32))), (.int (nar .byte (c2_.toInt8.toInt32))), (.int (nar .byte (c3_.toInt8.toInt32))), (.int (nar .byte (c4_.toInt8.toInt32))), (.int (nar .byte (c5_.toInt8.toInt32))), (.int (nar .byte (c6_.toInt8.toInt32))), (.int (nar .byte (c7_.toInt8.toInt32)))] (.int (0 : Int32)) ∧ h0.size ≤ b
set_option maxRecDepth 65536 in
set_option maxHeartbeats 40000000 in
theorem rs8i1 (l : Launch) (Z : State) (a0 : Array Value) (hw : ∀ d ∈ tables_1, d.before a0 Z = true) (ws : List Jvm.Cond) (s_ : Addr) (a : Addr) (ca : ClassId) (qc : Int32) (c0_ : Int32) (c1_ : Int32) (c2_ : Int32) (c3_ : Int32) (c4_ : Int32) (c5_ : Int32) (c6_ : Int32) (c7_ : Int32) (h0 : Heap) (n0 : Nat) (Z0 : n0 ≤ h0.size) (E_s : Exa Z h0 s_ "java/lang/String") (g_s : n0 ≤ s_) (F_v : Fld Z h0 s_ "java/lang/String" "value" "[B" .null) (F_c : Fld Z h0 s_ "java/lang/String" "coder" "B" (.int (0 : Int32))) (V_a : Arv Z h0 a ca .char (8 : Int32) [(.int c0_), (.int c1_), (.int c2_), (.int c3_), (.int c4_), (.int c5_), (.int c6_), (.int c7_)] (.int (0 : Int32))) (nsa : s_ ≠ a) (S_q : Sta Z h0 "java/lang/String" "COMPACT_STRINGS" "Z" (.int qc)) (hq : ¬ qc = 0) (hl0 : ¬ (255 : Int32) < c0_) (hl1 : ¬ (255 : Int32) < c1_) (hl2 : ¬ (255 : Int32) < c2_) (hl3 : ¬ (255 : Int32) < c3_) (hl4 : ¬ (255 : Int32) < c4_) (hl5 : ¬ (255 : Int32) < c5_) (hl6 : ¬ (255 : Int32) < c6_) (hl7 : ¬ (255 : Int32) < c7_) :
    OCon l Z (⟨"java/lang/String", "<init>", "([C)V"⟩ : MethodName) jdk_42_method_3_code 2 none ws ({ frames := 3, cells := 1, slots := 8, locals := 52 } : Room) #[(.ref s_), (.ref a)] h0 (Q_rs8i1 Z s_ a ca qc c0_ c1_ c2_ c3_ c4_ c5_ c6_ c7_ h0 n0) := by
  refine OCon.of (plainFor_of_name pn0) ?_
  intro p e s m below meth c s₁ Φ X0 hx hby hml hown hnm hret hlk hZ e0 hΦ
  have N0 := Fr.nil n0
  refine OGo.st (fun _ kz => castTop (ef_rs8i1 m s_ a) kz) ?_
  have K0 := Keep.refl h0 [s_]
  show OG p e below Φ s₁ m 0 #[rv s_, rv a] []
  refine OGo.st (fun _ kz => XS.aloadN X0.here hx rfl (hb hby d2_0) rfl rfl kz) ?_
  show OG p e below Φ s₁ m 1 #[rv s_, rv a] [(.ref s_)]
  refine OGo.st (fun _ kz => XS.aloadN X0.here hx rfl (hb hby d2_1) rfl rfl kz) ?_
  show OG p e below Φ s₁ m 2 #[rv s_, rv a] [(.ref a), (.ref s_)]
  refine OGo.st (fun _ kz => XS.iconst X0.here hx rfl (hb hby d2_2) kz) ?_
  show OG p e below Φ s₁ m 3 #[rv s_, rv a] [(.int 0), (.ref a), (.ref s_)]
  refine OGo.st (fun _ kz => XS.aloadN X0.here hx rfl (hb hby d2_3) rfl rfl kz) ?_
  show OG p e below Φ s₁ m 4 #[rv s_, rv a] [(.ref a), (.int 0), (.ref a), (.ref s_)]
  obtain ⟨cl1, Aq1, -, S1, M1, -, -⟩ := id V_a
  refine OGo.st (fun _ kz => X0.arraylength hx (by rw [e0]; exact Aq1.1) (State.isArrayOf_alike hZ.alike Aq1.2.1) (g := (mkF m 4 #[rv s_, rv a] [(.ref a), (.int 0), (.ref a), (.ref s_)])) rfl rfl (hb hby d2_4) _ kz) ?_
  rw [len_of S1 M1]
  show OG p e below Φ s₁ m 5 #[rv s_, rv a] [(.int 8), (.int 0), (.ref a), (.ref s_)]
  refine OGo.st (fun _ kz => XS.aconstNull X0.here hx rfl (hb hby d2_5) kz) ?_
  show OG p e below Φ s₁ m 6 #[rv s_, rv a] [.null, (.int 8), (.int 0), (.ref a), (.ref s_)]
  obtain ⟨_, T2, L2, X2, hQ2, st2⟩ := own_callSp X0 hx hZ rfl hown (ow12 hw) (ow13 hw) (ow8 hw) (ow15 hw) (by decide) (rs8i4 l Z a0 hw [] s_ a ca qc c0_ c1_ c2_ c3_ c4_ c5_ c6_ c7_ h0 n0 Z0 E_s g_s F_v F_c V_a nsa S_q hq hl0 hl1 hl2 hl3 hl4 hl5 hl6 hl7) e0 (W := 0) (by decide) (by decide) (by decide) (by decide) (pc := 6) (ls := #[rv s_, rv a]) (stk := [.null, (.int 8), (.int 0), (.ref a), (.ref s_)]) (by rw [hml]; rfl) (a := s_) (argsL := [(.ref a), (.int 0), (.int 8), .null]) (rest := []) (lenOf pd4 rfl) rfl rfl (Nat.le_of_eq rfl) (hb hby d2_6)
  obtain ⟨rfl, Nq2, Kq2, Eq2, b2, cb2, Fv2, Fc2, Vq2, hz2⟩ := hQ2
  have nq2_a : a ≠ b2 := Nat.ne_of_lt (Nat.lt_of_lt_of_le V_a.lt hz2)
  have nq2_s_ : s_ ≠ b2 := Nat.ne_of_lt (Nat.lt_of_lt_of_le E_s.lt hz2)
  have gq2 : n0 ≤ b2 := Nat.le_trans Z0 hz2
  have sq2 : h0.size ≤ b2 := Nat.le_trans K0.1 hz2
  have N2 := Fr.app N0 Nq2
  have Zs2 : n0 ≤ T2.heap.size := Nat.le_trans Z0 Kq2.1
  have F3 := V_a.keep Kq2 (ninS (Ne.symm nsa) nin0)
  have K2 := K0.trans Kq2 (allS (Or.inl (List.mem_of_getElem? (i := 0) rfl)) all0)
  refine OGo.st st2 ?_
  show OG p e below Φ T2 m 9 #[rv s_, rv a] []
  refine OGo.fin X2 hlk (v := none) (fun _ => rfl) (by decide) (by decide) (fun fs hr => X2.returnOut hx hret (hb hby d2_9) hr) fun U eU hF => hΦ _ _ _ ?_ hF
  rw [eU]
  show Q_rs8i1 Z s_ a ca qc c0_ c1_ c2_ c3_ c4_ c5_ c6_ c7_ h0 n0 _ _ _
  exact ⟨rfl, N2, K2, Eq2, _, _, Fv2, Fc2, Vq2, sq2⟩

theorem ef_rof3 (m : MethodId) (x0 : Addr) : entryFrame m #[(.ref x0)] 3 = mkF m 0 #[.val (.ref x0), .unset, .unset] [] := by first | (simp [entryFrame, mkF, argsToLocals, Value.category]; done) | rfl
def Q_rof3 (Z : State) (ay : Addr) (cy : ClassId) (y0_ : Int32) (y1_ : Int32) (y2_ : Int32) (ah : Addr) (ch : ClassId) (qc : Int32) (h0 : Heap) (n0 : Nat) (v : Option Value) (h : Heap) (L : List Loc) : Prop := ∃ s_ b cb, v = some (.ref s_) ∧ Fr n0 L ∧ Keep h0 h [] ∧ Exa Z h s_ "java/lang/String" ∧ Fld Z h s_ "java/lang/String" "value" "[B" (.ref b) ∧ Fld Z h s_ "java/lang/String" "coder" "B" (.int (0 : Int32)) ∧ Arv Z h b cb .byte (8 : Int32) [(.int (92 : Int32)), (.int (120 : Int32)), (.int (own_hi y0_)), (.int (own_lo y0_)), (.int (own_hi y1_)), (.int (own_lo y1_)), (.int (own_hi y2_)), (.int (own_lo y2_))] (.int (0 : Int32)) ∧ h0.size ≤ s_ ∧ h0.size ≤ b ∧ s_ ≠ b
set_option maxRecDepth 65536 in
set_option maxHeartbeats 40000000 in
theorem rof3 (l : Launch) (Z : State) (a0 : Array Value) (hw : ∀ d ∈ tables_1, d.before a0 Z = true) (ws : List Jvm.Cond) (ay : Addr) (cy : ClassId) (y0_ : Int32) (y1_ : Int32) (y2_ : Int32) (ah : Addr) (ch : ClassId) (qc : Int32) (h0 : Heap) (n0 : Nat) (Z0 : n0 ≤ h0.size) (O_0 : Old Z n0 h0) (V_y : Arv Z h0 ay cy .byte (3 : Int32) [(.int y0_), (.int y1_), (.int y2_)] (.int (0 : Int32))) (V_h : Arv Z h0 ah ch .char (16 : Int32) own_hxl (.int (0 : Int32))) (S_h : Sta Z Z.heap "com/example/crossweave/crossweave/PostgreSqlText" "HEX_DIGITS" "[C" (.ref ah)) (S_cs : Sta Z Z.heap "java/lang/String" "COMPACT_STRINGS" "Z" (.int qc)) (hq : ¬ qc = 0) :
    OCon l Z (⟨"com/example/crossweave/crossweave/PostgreSqlText", "ofBytes", "([B)Ljava/lang/String;"⟩ : MethodName) prog_4_method_7_code 3 (some (.object "java/lang/String")) ws ({ frames := 4, cells := 3, slots := 20, locals := 66 } : Room) #[(.ref ay)] h0 (Q_rof3 Z ay cy y0_ y1_ y2_ ah ch qc h0 n0) := by
  refine OCon.of (plainFor_of_name pn4) ?_
  intro p e s m below meth c s₁ Φ X0 hx hby hml hown hnm hret hlk hZ e0 hΦ
  have N0 := Fr.nil n0
  refine OGo.st (fun _ kz => castTop (ef_rof3 m ay) kz) ?_
  have K0 := Keep.refl h0 []
  show OG p e below Φ s₁ m 0 #[rv ay, .unset, .unset] []
  refine OGo.st (fun _ kz => XS.iconst X0.here hx rfl (hb hby d1_0) kz) ?_
  show OG p e below Φ s₁ m 1 #[rv ay, .unset, .unset] [(.int 2)]
  refine OGo.st (fun _ kz => XS.iconst X0.here hx rfl (hb hby d1_1) kz) ?_
  show OG p e below Φ s₁ m 2 #[rv ay, .unset, .unset] [(.int 2), (.int 2)]
  refine OGo.st (fun _ kz => XS.aloadN X0.here hx rfl (hb hby d1_2) rfl rfl kz) ?_
  show OG p e below Φ s₁ m 3 #[rv ay, .unset, .unset] [(.ref ay), (.int 2), (.int 2)]
  obtain ⟨cl1, Aq1, -, S1, M1, -, -⟩ := id V_y
  refine OGo.st (fun _ kz => X0.arraylength hx (by rw [e0]; exact Aq1.1) (State.isArrayOf_alike hZ.alike Aq1.2.1) (g := (mkF m 3 #[rv ay, .unset, .unset] [(.ref ay), (.int 2), (.int 2)])) rfl rfl (hb hby d1_3) _ kz) ?_
  rw [len_of S1 M1]
  show OG p e below Φ s₁ m 4 #[rv ay, .unset, .unset] [(.int 3), (.int 2), (.int 2)]
  refine OGo.st (fun _ kz => XS.imul X0.here hx rfl (hb hby d1_4) rfl kz) ?_
  show OG p e below Φ s₁ m 5 #[rv ay, .unset, .unset] [(.int 6), (.int 2)]
  refine OGo.st (fun _ kz => XS.iadd X0.here hx rfl (hb hby d1_5) rfl kz) ?_
  show OG p e below Φ s₁ m 6 #[rv ay, .unset, .unset] [(.int 8)]
  obtain ⟨T2, h2, c2, X2, e2, E2, Ar2, st2⟩ := newP (aty := .char) X0 hx hZ (ow5 hw) e0 (g := (mkF m 6 #[rv ay, .unset, .unset] [(.int 8)])) rfl (hb hby d1_6) rfl (by decide) (cap := 8) (by decide) (by decide) (by decide) (by decide)
  obtain ⟨b2, g2⟩ : ∃ z, z = h0.size := ⟨_, rfl⟩
  rw [← g2] at Ar2 st2
  have ne2_ah : ah ≠ b2 := by rw [g2]; exact Nat.ne_of_lt V_h.lt
  have ne2_ay : ay ≠ b2 := by rw [g2]; exact Nat.ne_of_lt V_y.lt
  have F3 := V_y.ext E2
  have F4 := V_h.ext E2
  have F5 := O_0.ext E2
  have gb2 : n0 ≤ b2 := Nat.le_trans Z0 (Nat.le_of_eq g2.symm)
  have sz2 : h0.size ≤ b2 := Nat.le_trans K0.1 (Nat.le_of_eq g2.symm)
  have K2 := K0.ext E2
  have Zs2 : n0 ≤ h2.size := Nat.le_trans Z0 E2.1
  have V2 : Arv Z h2 b2 c2 .char (8 : Int32) [(.int (0 : Int32)), (.int (0 : Int32)), (.int (0 : Int32)), (.int (0 : Int32)), (.int (0 : Int32)), (.int (0 : Int32)), (.int (0 : Int32)), (.int (0 : Int32))] (.int (0 : Int32)) := (Arv.new Ar2 (by decide)).pad (pad_rep [] _ 8)
  refine OGo.st st2 ?_
  show OG p e below Φ T2 m 8 #[rv ay, .unset, .unset] [(.ref b2)]
  refine OGo.st (fun _ kz => XS.astoreN X2.here hx rfl (hb hby d1_8) rfl rfl (l' := #[rv ay, rv b2, .unset]) rfl kz) ?_
  show OG p e below Φ T2 m 9 #[rv ay, rv b2, .unset] []
  refine OGo.st (fun _ kz => XS.aloadN X2.here hx rfl (hb hby d1_9) rfl rfl kz) ?_
  show OG p e below Φ T2 m 10 #[rv ay, rv b2, .unset] [(.ref b2)]
  refine OGo.st (fun _ kz => XS.iconst X2.here hx rfl (hb hby d1_10) kz) ?_
  show OG p e below Φ T2 m 11 #[rv ay, rv b2, .unset] [(.int 0), (.ref b2)]
  refine OGo.st (fun _ kz => XS.bipush X2.here hx rfl (hb hby d1_11) kz) ?_
  show OG p e below Φ T2 m 13 #[rv ay, rv b2, .unset] [(.int 92), (.int 0), (.ref b2)]
  obtain ⟨cl6, Aq6, Cq6, S6, M6, H6, G6⟩ := id V2
  have in6 : ¬ ((0 : Int32) < 0 ∨ cl6.slots.size ≤ (0 : Int32).toNatClampNeg) := inb_of S6 ⟨by decide, by decide⟩
  obtain ⟨T6, h6, X6, e6, W6, st6⟩ := stC X2 hx hZ e2 Aq6 in6 (g := (mkF m 13 #[rv ay, rv b2, .unset] [(.int 92), (.int 0), (.ref b2)])) rfl rfl (hb hby d1_13)
  have W6 : Wr h2 h6 b2 (0 : Int32).toNatClampNeg (.int (92 : Int32)) := W6
  have F7 := F3.other W6 ne2_ay
  have F8 := F4.other W6 ne2_ah
  have F9 := F5.wr W6 gb2
  have V6 : Arv Z h6 b2 c2 .char (8 : Int32) [(.int (92 : Int32)), (.int (0 : Int32)), (.int (0 : Int32)), (.int (0 : Int32)), (.int (0 : Int32)), (.int (0 : Int32)), (.int (0 : Int32)), (.int (0 : Int32))] (.int (0 : Int32)) := Arv.set Aq6 Cq6 S6 M6 H6 G6 (by decide) W6 0 (by decide) (by show 0 < 8; decide)
  have K6 := K2.wr W6 (Or.inr sz2)
  have N6 := Fr.snoc X6 N0 gb2
  have Zs6 : n0 ≤ h6.size := by rw [W6.size]; exact Zs2
  refine OGo.st st6 ?_
  show OG p e below Φ T6 m 14 #[rv ay, rv b2, .unset] []
  refine OGo.st (fun _ kz => XS.aloadN X6.here hx rfl (hb hby d1_14) rfl rfl kz) ?_
  show OG p e below Φ T6 m 15 #[rv ay, rv b2, .unset] [(.ref b2)]
  refine OGo.st (fun _ kz => XS.iconst X6.here hx rfl (hb hby d1_15) kz) ?_
  show OG p e below Φ T6 m 16 #[rv ay, rv b2, .unset] [(.int 1), (.ref b2)]
  refine OGo.st (fun _ kz => XS.bipush X6.here hx rfl (hb hby d1_16) kz) ?_
  show OG p e below Φ T6 m 18 #[rv ay, rv b2, .unset] [(.int 120), (.int 1), (.ref b2)]
  obtain ⟨cl10, Aq10, Cq10, S10, M10, H10, G10⟩ := id V6
  have in10 : ¬ ((1 : Int32) < 0 ∨ cl10.slots.size ≤ (1 : Int32).toNatClampNeg) := inb_of S10 ⟨by decide, by decide⟩
  obtain ⟨T10, h10, X10, e10, W10, st10⟩ := stC X6 hx hZ e6 Aq10 in10 (g := (mkF m 18 #[rv ay, rv b2, .unset] [(.int 120), (.int 1), (.ref b2)])) rfl rfl (hb hby d1_18)
  have W10 : Wr h6 h10 b2 (1 : Int32).toNatClampNeg (.int (120 : Int32)) := W10
  have F11 := F7.other W10 ne2_ay
  have F12 := F8.other W10 ne2_ah
  have F13 := F9.wr W10 gb2
  have V10 : Arv Z h10 b2 c2 .char (8 : Int32) [(.int (92 : Int32)), (.int (120 : Int32)), (.int (0 : Int32)), (.int (0 : Int32)), (.int (0 : Int32)), (.int (0 : Int32)), (.int (0 : Int32)), (.int (0 : Int32))] (.int (0 : Int32)) := Arv.set Aq10 Cq10 S10 M10 H10 G10 (by decide) W10 1 (by decide) (by show 1 < 8; decide)
  have K10 := K6.wr W10 (Or.inr sz2)
  have N10 := Fr.snoc X10 N6 gb2
  have Zs10 : n0 ≤ h10.size := by rw [W10.size]; exact Zs6
  refine OGo.st st10 ?_
  show OG p e below Φ T10 m 19 #[rv ay, rv b2, .unset] []
  refine OGo.st (fun _ kz => XS.iconst X10.here hx rfl (hb hby d1_19) kz) ?_
  show OG p e below Φ T10 m 20 #[rv ay, rv b2, .unset] [(.int 0)]
  refine OGo.st (fun _ kz => XS.istoreN X10.here hx rfl (hb hby d1_20) rfl (l' := #[rv ay, rv b2, iv 0]) rfl kz) ?_
  show OG p e below Φ T10 m 21 #[rv ay, rv b2, iv 0] []
  refine OGo.st (fun _ kz => XS.iloadN X10.here hx rfl (hb hby d1_21) rfl kz) ?_
  show OG p e below Φ T10 m 22 #[rv ay, rv b2, iv 0] [(.int 0)]
  refine OGo.st (fun _ kz => XS.aloadN X10.here hx rfl (hb hby d1_22) rfl rfl kz) ?_
  show OG p e below Φ T10 m 23 #[rv ay, rv b2, iv 0] [(.ref ay), (.int 0)]
  obtain ⟨cl14, Aq14, -, S14, M14, -, -⟩ := id F11
  refine OGo.st (fun _ kz => X10.arraylength hx (by rw [e10]; exact Aq14.1) (State.isArrayOf_alike hZ.alike Aq14.2.1) (g := (mkF m 23 #[rv ay, rv b2, iv 0] [(.ref ay), (.int 0)])) rfl rfl (hb hby d1_23) _ kz) ?_
  rw [len_of S14 M14]
  show OG p e below Φ T10 m 24 #[rv ay, rv b2, iv 0] [(.int 3), (.int 0)]
  refine OGo.st (fun _ kz => XS.icmpNo X10.here hx rfl (hb hby d1_24) rfl (XT.ii_ge_f (by decide)) kz) ?_
  show OG p e below Φ T10 m 27 #[rv ay, rv b2, iv 0] []
  refine OGo.st (fun _ kz => XS.aloadN X10.here hx rfl (hb hby d1_27) rfl rfl kz) ?_
  show OG p e below Φ T10 m 28 #[rv ay, rv b2, iv 0] [(.ref b2)]
  refine OGo.st (fun _ kz => XS.iconst X10.here hx rfl (hb hby d1_28) kz) ?_
  show OG p e below Φ T10 m 29 #[rv ay, rv b2, iv 0] [(.int 2), (.ref b2)]
  refine OGo.st (fun _ kz => XS.iconst X10.here hx rfl (hb hby d1_29) kz) ?_
  show OG p e below Φ T10 m 30 #[rv ay, rv b2, iv 0] [(.int 2), (.int 2), (.ref b2)]
  refine OGo.st (fun _ kz => XS.iloadN X10.here hx rfl (hb hby d1_30) rfl kz) ?_
  show OG p e below Φ T10 m 31 #[rv ay, rv b2, iv 0] [(.int 0), (.int 2), (.int 2), (.ref b2)]
  refine OGo.st (fun _ kz => XS.imul X10.here hx rfl (hb hby d1_31) rfl kz) ?_
  show OG p e below Φ T10 m 32 #[rv ay, rv b2, iv 0] [(.int 0), (.int 2), (.ref b2)]
  refine OGo.st (fun _ kz => XS.iadd X10.here hx rfl (hb hby d1_32) rfl kz) ?_
  show OG p e below Φ T10 m 33 #[rv ay, rv b2, iv 0] [(.int 2), (.ref b2)]
  have Sh15 := S_h.ext F13.2
  obtain ⟨T16, X16, e16, st16⟩ := getS2 X10 hx hZ hown (host := "") (Or.inl (ow66 hw)) Via.refl e10 Sh15 (g := (mkF m 33 #[rv ay, rv b2, iv 0] [(.int 2), (.ref b2)])) rfl (hb hby d1_33)
  refine OGo.st st16 ?_
  show OG p e below Φ T16 m 36 #[rv ay, rv b2, iv 0] [(.ref ah), (.int 2), (.ref b2)]
  refine OGo.st (fun _ kz => XS.aloadN X16.here hx rfl (hb hby d1_36) rfl rfl kz) ?_
  show OG p e below Φ T16 m 37 #[rv ay, rv b2, iv 0] [(.ref ay), (.ref ah), (.int 2), (.ref b2)]
  refine OGo.st (fun _ kz => XS.iloadN X16.here hx rfl (hb hby d1_37) rfl kz) ?_
  show OG p e below Φ T16 m 38 #[rv ay, rv b2, iv 0] [(.int 0), (.ref ay), (.ref ah), (.int 2), (.ref b2)]
  obtain ⟨cl17, Aq17, -, S17, M17, H17, -⟩ := id F11
  have in17 : ¬ ((0 : Int32) < 0 ∨ cl17.slots.size ≤ (0 : Int32).toNatClampNeg) := inb_of S17 ⟨by decide, by decide⟩
  have at17 : cl17.slots[(0 : Int32).toNatClampNeg]? = some (.int y0_) := H17.at in17 rfl
  refine OGo.st (fun _ kz => X16.baloadBytes hx (by rw [e16]; exact Aq17.1) (State.isArrayOf_alike hZ.alike Aq17.2.1) Aq17.2.2 in17 at17 (g := (mkF m 38 #[rv ay, rv b2, iv 0] [(.int 0), (.ref ay), (.ref ah), (.int 2), (.ref b2)])) rfl rfl (hb hby d1_38) _ kz) ?_
  show OG p e below Φ T16 m 39 #[rv ay, rv b2, iv 0] [(.int y0_), (.ref ah), (.int 2), (.ref b2)]
  refine OGo.st (fun _ kz => XS.iconst X16.here hx rfl (hb hby d1_39) kz) ?_
  show OG p e below Φ T16 m 40 #[rv ay, rv b2, iv 0] [(.int 4), (.int y0_), (.ref ah), (.int 2), (.ref b2)]
  refine OGo.st (fun _ kz => XT.ishr X16.here hx rfl (hb hby d1_40) rfl kz) ?_
  show OG p e below Φ T16 m 41 #[rv ay, rv b2, iv 0] [(.int (y0_ >>> ((4 : Int32) &&& 31))), (.ref ah), (.int 2), (.ref b2)]
  refine OGo.st (fun _ kz => XS.bipush X16.here hx rfl (hb hby d1_41) kz) ?_
  show OG p e below Φ T16 m 43 #[rv ay, rv b2, iv 0] [(.int 15), (.int (y0_ >>> ((4 : Int32) &&& 31))), (.ref ah), (.int 2), (.ref b2)]
  refine OGo.st (fun _ kz => XS.iand X16.here hx rfl (hb hby d1_43) rfl kz) ?_
  show OG p e below Φ T16 m 44 #[rv ay, rv b2, iv 0] [(.int ((y0_ >>> ((4 : Int32) &&& 31)) &&& (15 : Int32))), (.ref ah), (.int 2), (.ref b2)]
  obtain ⟨cl18, Aq18, -, S18, M18, H18, -⟩ := id F12
  refine OGo.st (fun _ kz => X16.caload hx (by rw [e16]; exact Aq18.1) (State.isArrayOf_alike hZ.alike Aq18.2.1) Aq18.2.2 (inb_of S18 (own_m15 (y0_ >>> ((4 : Int32) &&& 31)))) (own_hexAt S18 H18 (y0_ >>> ((4 : Int32) &&& 31))) (g := (mkF m 44 #[rv ay, rv b2, iv 0] [(.int ((y0_ >>> ((4 : Int32) &&& 31)) &&& (15 : Int32))), (.ref ah), (.int 2), (.ref b2)])) rfl rfl (hb hby d1_44) _ kz) ?_
  show OG p e below Φ T16 m 45 #[rv ay, rv b2, iv 0] [(.int (own_hx ((y0_ >>> ((4 : Int32) &&& 31)) &&& (15 : Int32)))), (.int 2), (.ref b2)]
  obtain ⟨cl19, Aq19, Cq19, S19, M19, H19, G19⟩ := id V10
  have in19 : ¬ ((2 : Int32) < 0 ∨ cl19.slots.size ≤ (2 : Int32).toNatClampNeg) := inb_of S19 ⟨by decide, by decide⟩
  obtain ⟨T19, h19, X19, e19, W19, st19⟩ := stC X16 hx hZ e16 Aq19 in19 (g := (mkF m 45 #[rv ay, rv b2, iv 0] [(.int (own_hx ((y0_ >>> ((4 : Int32) &&& 31)) &&& (15 : Int32)))), (.int 2), (.ref b2)])) rfl rfl (hb hby d1_45)
  have W19 : Wr h10 h19 b2 (2 : Int32).toNatClampNeg (.int (nar .char (own_hx ((y0_ >>> ((4 : Int32) &&& 31)) &&& (15 : Int32))))) := W19
  have F20 := F11.other W19 ne2_ay
  have F21 := F12.other W19 ne2_ah
  have F22 := F13.wr W19 gb2
  have V19 : Arv Z h19 b2 c2 .char (8 : Int32) [(.int (92 : Int32)), (.int (120 : Int32)), (.int (nar .char (own_hx ((y0_ >>> ((4 : Int32) &&& 31)) &&& (15 : Int32))))), (.int (0 : Int32)), (.int (0 : Int32)), (.int (0 : Int32)), (.int (0 : Int32)), (.int (0 : Int32))] (.int (0 : Int32)) := Arv.set Aq19 Cq19 S19 M19 H19 G19 (fits_nar_char _) W19 2 (by decide) (by show 2 < 8; decide)
  have K19 := K10.wr W19 (Or.inr sz2)
  have N19 := Fr.snoc X19 N10 gb2
  have Zs19 : n0 ≤ h19.size := by rw [W19.size]; exact Zs10
  refine OGo.st st19 ?_
  show OG p e below Φ T19 m 46 #[rv ay, rv b2, iv 0] []
  refine OGo.st (fun _ kz => XS.aloadN X19.here hx rfl (hb hby d1_46) rfl rfl kz) ?_
  show OG p e below Φ T19 m 47 #[rv ay, rv b2, iv 0] [(.ref b2)]
  refine OGo.st (fun _ kz => XS.iconst X19.here hx rfl (hb hby d1_47) kz) ?_
  show OG p e below Φ T19 m 48 #[rv ay, rv b2, iv 0] [(.int 3), (.ref b2)]
  refine OGo.st (fun _ kz => XS.iconst X19.here hx rfl (hb hby d1_48) kz) ?_
  show OG p e below Φ T19 m 49 #[rv ay, rv b2, iv 0] [(.int 2), (.int 3), (.ref b2)]
  refine OGo.st (fun _ kz => XS.iloadN X19.here hx rfl (hb hby d1_49) rfl kz) ?_
  show OG p e below Φ T19 m 50 #[rv ay, rv b2, iv 0] [(.int 0), (.int 2), (.int 3), (.ref b2)]
  refine OGo.st (fun _ kz => XS.imul X19.here hx rfl (hb hby d1_50) rfl kz) ?_
  show OG p e below Φ T19 m 51 #[rv ay, rv b2, iv 0] [(.int 0), (.int 3), (.ref b2)]
  refine OGo.st (fun _ kz => XS.iadd X19.here hx rfl (hb hby d1_51) rfl kz) ?_
  show OG p e below Φ T19 m 52 #[rv ay, rv b2, iv 0] [(.int 3), (.ref b2)]
  have Sh23 := S_h.ext F22.2
  obtain ⟨T24, X24, e24, st24⟩ := getS2 X19 hx hZ hown (host := "") (Or.inl (ow66 hw)) Via.refl e19 Sh23 (g := (mkF m 52 #[rv ay, rv b2, iv 0] [(.int 3), (.ref b2)])) rfl (hb hby d1_52)
  refine OGo.st st24 ?_
  show OG p e below Φ T24 m 55 #[rv ay, rv b2, iv 0] [(.ref ah), (.int 3), (.ref b2)]
  refine OGo.st (fun _ kz => XS.aloadN X24.here hx rfl (hb hby d1_55) rfl rfl kz) ?_
  show OG p e below Φ T24 m 56 #[rv ay, rv b2, iv 0] [(.ref ay), (.ref ah), (.int 3), (.ref b2)]
  refine OGo.st (fun _ kz => XS.iloadN X24.here hx rfl (hb hby d1_56) rfl kz) ?_
  show OG p e below Φ T24 m 57 #[rv ay, rv b2, iv 0] [(.int 0), (.ref ay), (.ref ah), (.int 3), (.ref b2)]
  obtain ⟨cl25, Aq25, -, S25, M25, H25, -⟩ := id F20
  have in25 : ¬ ((0 : Int32) < 0 ∨ cl25.slots.size ≤ (0 : Int32).toNatClampNeg) := inb_of S25 ⟨by decide, by decide⟩
  have at25 : cl25.slots[(0 : Int32).toNatClampNeg]? = some (.int y0_) := H25.at in25 rfl
  refine OGo.st (fun _ kz => X24.baloadBytes hx (by rw [e24]; exact Aq25.1) (State.isArrayOf_alike hZ.alike Aq25.2.1) Aq25.2.2 in25 at25 (g := (mkF m 57 #[rv ay, rv b2, iv 0] [(.int 0), (.ref ay), (.ref ah), (.int 3), (.ref b2)])) rfl rfl (hb hby d1_57) _ kz) ?_
  show OG p e below Φ T24 m 58 #[rv ay, rv b2, iv 0] [(.int y0_), (.ref ah), (.int 3), (.ref b2)]
  refine OGo.st (fun _ kz => XS.bipush X24.here hx rfl (hb hby d1_58) kz) ?_
  show OG p e below Φ T24 m 60 #[rv ay, rv b2, iv 0] [(.int 15), (.int y0_), (.ref ah), (.int 3), (.ref b2)]
  refine OGo.st (fun _ kz => XS.iand X24.here hx rfl (hb hby d1_60) rfl kz) ?_
  show OG p e below Φ T24 m 61 #[rv ay, rv b2, iv 0] [(.int (y0_ &&& (15 : Int32))), (.ref ah), (.int 3), (.ref b2)]
  obtain ⟨cl26, Aq26, -, S26, M26, H26, -⟩ := id F21
  refine OGo.st (fun _ kz => X24.caload hx (by rw [e24]; exact Aq26.1) (State.isArrayOf_alike hZ.alike Aq26.2.1) Aq26.2.2 (inb_of S26 (own_m15 y0_)) (own_hexAt S26 H26 y0_) (g := (mkF m 61 #[rv ay, rv b2, iv 0] [(.int (y0_ &&& (15 : Int32))), (.ref ah), (.int 3), (.ref b2)])) rfl rfl (hb hby d1_61) _ kz) ?_
  show OG p e below Φ T24 m 62 #[rv ay, rv b2, iv 0] [(.int (own_hx (y0_ &&& (15 : Int32)))), (.int 3), (.ref b2)]
  obtain ⟨cl27, Aq27, Cq27, S27, M27, H27, G27⟩ := id V19
  have in27 : ¬ ((3 : Int32) < 0 ∨ cl27.slots.size ≤ (3 : Int32).toNatClampNeg) := inb_of S27 ⟨by decide, by decide⟩
  obtain ⟨T27, h27, X27, e27, W27, st27⟩ := stC X24 hx hZ e24 Aq27 in27 (g := (mkF m 62 #[rv ay, rv b2, iv 0] [(.int (own_hx (y0_ &&& (15 : Int32)))), (.int 3), (.ref b2)])) rfl rfl (hb hby d1_62)
  have W27 : Wr h19 h27 b2 (3 : Int32).toNatClampNeg (.int (nar .char (own_hx (y0_ &&& (15 : Int32))))) := W27
  have F28 := F20.other W27 ne2_ay
  have F29 := F21.other W27 ne2_ah
  have F30 := F22.wr W27 gb2
  have V27 : Arv Z h27 b2 c2 .char (8 : Int32) [(.int (92 : Int32)), (.int (120 : Int32)), (.int (nar .char (own_hx ((y0_ >>> ((4 : Int32) &&& 31)) &&& (15 : Int32))))), (.int (nar .char (own_hx (y0_ &&& (15 : Int32))))), (.int (0 : Int32)), (.int (0 : Int32)), (.int (0 : Int32)), (.int (0 : Int32))] (.int (0 : Int32)) := Arv.set Aq27 Cq27 S27 M27 H27 G27 (fits_nar_char _) W27 3 (by decide) (by show 3 < 8; decide)
  have K27 := K19.wr W27 (Or.inr sz2)
  have N27 := Fr.snoc X27 N19 gb2
  have Zs27 : n0 ≤ h27.size := by rw [W27.size]; exact Zs19
  refine OGo.st st27 ?_
  show OG p e below Φ T27 m 63 #[rv ay, rv b2, iv 0] []
  refine OGo.st (fun _ kz => XS.iinc X27.here hx rfl (hb hby d1_63) rfl (l' := #[rv ay, rv b2, iv ((0 : Int32) + (1 : Int32))]) rfl kz) ?_
  show OG p e below Φ T27 m 66 #[rv ay, rv b2, iv 1] []
  refine OGo.st (fun _ kz => XS.goto X27.here hx rfl (pc0 := 66) (pc' := 21) rfl (hb hby d1_66) (by decide) (by decide) kz) ?_
  show OG p e below Φ T27 m 21 #[rv ay, rv b2, iv 1] []
  refine OGo.st (fun _ kz => XS.iloadN X27.here hx rfl (hb hby d1_21) rfl kz) ?_
  show OG p e below Φ T27 m 22 #[rv ay, rv b2, iv 1] [(.int 1)]
  refine OGo.st (fun _ kz => XS.aloadN X27.here hx rfl (hb hby d1_22) rfl rfl kz) ?_
  show OG p e below Φ T27 m 23 #[rv ay, rv b2, iv 1] [(.ref ay), (.int 1)]
  obtain ⟨cl31, Aq31, -, S31, M31, -, -⟩ := id F28
  refine OGo.st (fun _ kz => X27.arraylength hx (by rw [e27]; exact Aq31.1) (State.isArrayOf_alike hZ.alike Aq31.2.1) (g := (mkF m 23 #[rv ay, rv b2, iv 1] [(.ref ay), (.int 1)])) rfl rfl (hb hby d1_23) _ kz) ?_
  rw [len_of S31 M31]
  show OG p e below Φ T27 m 24 #[rv ay, rv b2, iv 1] [(.int 3), (.int 1)]
  refine OGo.st (fun _ kz => XS.icmpNo X27.here hx rfl (hb hby d1_24) rfl (XT.ii_ge_f (by decide)) kz) ?_
  show OG p e below Φ T27 m 27 #[rv ay, rv b2, iv 1] []
  refine OGo.st (fun _ kz => XS.aloadN X27.here hx rfl (hb hby d1_27) rfl rfl kz) ?_
  show OG p e below Φ T27 m 28 #[rv ay, rv b2, iv 1] [(.ref b2)]
  refine OGo.st (fun _ kz => XS.iconst X27.here hx rfl (hb hby d1_28) kz) ?_
  show OG p e below Φ T27 m 29 #[rv ay, rv b2, iv 1] [(.int 2), (.ref b2)]
  refine OGo.st (fun _ kz => XS.iconst X27.here hx rfl (hb hby d1_29) kz) ?_
  show OG p e below Φ T27 m 30 #[rv ay, rv b2, iv 1] [(.int 2), (.int 2), (.ref b2)]
  refine OGo.st (fun _ kz => XS.iloadN X27.here hx rfl (hb hby d1_30) rfl kz) ?_
  show OG p e below Φ T27 m 31 #[rv ay, rv b2, iv 1] [(.int 1), (.int 2), (.int 2), (.ref b2)]
  refine OGo.st (fun _ kz => XS.imul X27.here hx rfl (hb hby d1_31) rfl kz) ?_
  show OG p e below Φ T27 m 32 #[rv ay, rv b2, iv 1] [(.int 2), (.int 2), (.ref b2)]
  refine OGo.st (fun _ kz => XS.iadd X27.here hx rfl (hb hby d1_32) rfl kz) ?_
  show OG p e below Φ T27 m 33 #[rv ay, rv b2, iv 1] [(.int 4), (.ref b2)]
  have Sh32 := S_h.ext F30.2
  obtain ⟨T33, X33, e33, st33⟩ := getS2 X27 hx hZ hown (host := "") (Or.inl (ow66 hw)) Via.refl e27 Sh32 (g := (mkF m 33 #[rv ay, rv b2, iv 1] [(.int 4), (.ref b2)])) rfl (hb hby d1_33)
  refine OGo.st st33 ?_
  show OG p e below Φ T33 m 36 #[rv ay, rv b2, iv 1] [(.ref ah), (.int 4), (.ref b2)]
  refine OGo.st (fun _ kz => XS.aloadN X33.here hx rfl (hb hby d1_36) rfl rfl kz) ?_
  show OG p e below Φ T33 m 37 #[rv ay, rv b2, iv 1] [(.ref ay), (.ref ah), (.int 4), (.ref b2)]
  refine OGo.st (fun _ kz => XS.iloadN X33.here hx rfl (hb hby d1_37) rfl kz) ?_
  show OG p e below Φ T33 m 38 #[rv ay, rv b2, iv 1] [(.int 1), (.ref ay), (.ref ah), (.int 4), (.ref b2)]
  obtain ⟨cl34, Aq34, -, S34, M34, H34, -⟩ := id F28
  have in34 : ¬ ((1 : Int32) < 0 ∨ cl34.slots.size ≤ (1 : Int32).toNatClampNeg) := inb_of S34 ⟨by decide, by decide⟩
  have at34 : cl34.slots[(1 : Int32).toNatClampNeg]? = some (.int y1_) := H34.at in34 rfl
  refine OGo.st (fun _ kz => X33.baloadBytes hx (by rw [e33]; exact Aq34.1) (State.isArrayOf_alike hZ.alike Aq34.2.1) Aq34.2.2 in34 at34 (g := (mkF m 38 #[rv ay, rv b2, iv 1] [(.int 1), (.ref ay), (.ref ah), (.int 4), (.ref b2)])) rfl rfl (hb hby d1_38) _ kz) ?_
  show OG p e below Φ T33 m 39 #[rv ay, rv b2, iv 1] [(.int y1_), (.ref ah), (.int 4), (.ref b2)]
  refine OGo.st (fun _ kz => XS.iconst X33.here hx rfl (hb hby d1_39) kz) ?_
  show OG p e below Φ T33 m 40 #[rv ay, rv b2, iv 1] [(.int 4), (.int y1_), (.ref ah), (.int 4), (.ref b2)]
  refine OGo.st (fun _ kz => XT.ishr X33.here hx rfl (hb hby d1_40) rfl kz) ?_
  show OG p e below Φ T33 m 41 #[rv ay, rv b2, iv 1] [(.int (y1_ >>> ((4 : Int32) &&& 31))), (.ref ah), (.int 4), (.ref b2)]
  refine OGo.st (fun _ kz => XS.bipush X33.here hx rfl (hb hby d1_41) kz) ?_
  show OG p e below Φ T33 m 43 #[rv ay, rv b2, iv 1] [(.int 15), (.int (y1_ >>> ((4 : Int32) &&& 31))), (.ref ah), (.int 4), (.ref b2)]
  refine OGo.st (fun _ kz => XS.iand X33.here hx rfl (hb hby d1_43) rfl kz) ?_
  show OG p e below Φ T33 m 44 #[rv ay, rv b2, iv 1] [(.int ((y1_ >>> ((4 : Int32) &&& 31)) &&& (15 : Int32))), (.ref ah), (.int 4), (.ref b2)]
  obtain ⟨cl35, Aq35, -, S35, M35, H35, -⟩ := id F29
  refine OGo.st (fun _ kz => X33.caload hx (by rw [e33]; exact Aq35.1) (State.isArrayOf_alike hZ.alike Aq35.2.1) Aq35.2.2 (inb_of S35 (own_m15 (y1_ >>> ((4 : Int32) &&& 31)))) (own_hexAt S35 H35 (y1_ >>> ((4 : Int32) &&& 31))) (g := (mkF m 44 #[rv ay, rv b2, iv 1] [(.int ((y1_ >>> ((4 : Int32) &&& 31)) &&& (15 : Int32))), (.ref ah), (.int 4), (.ref b2)])) rfl rfl (hb hby d1_44) _ kz) ?_
  show OG p e below Φ T33 m 45 #[rv ay, rv b2, iv 1] [(.int (own_hx ((y1_ >>> ((4 : Int32) &&& 31)) &&& (15 : Int32)))), (.int 4), (.ref b2)]
  obtain ⟨cl36, Aq36, Cq36, S36, M36, H36, G36⟩ := id V27
  have in36 : ¬ ((4 : Int32) < 0 ∨ cl36.slots.size ≤ (4 : Int32).toNatClampNeg) := inb_of S36 ⟨by decide, by decide⟩
  obtain ⟨T36, h36, X36, e36, W36, st36⟩ := stC X33 hx hZ e33 Aq36 in36 (g := (mkF m 45 #[rv ay, rv b2, iv 1] [(.int (own_hx ((y1_ >>> ((4 : Int32) &&& 31)) &&& (15 : Int32)))), (.int 4), (.ref b2)])) rfl rfl (hb hby d1_45)
  have W36 : Wr h27 h36 b2 (4 : Int32).toNatClampNeg (.int (nar .char (own_hx ((y1_ >>> ((4 : Int32) &&& 31)) &&& (15 : Int32))))) := W36
  have F37 := F28.other W36 ne2_ay
  have F38 := F29.other W36 ne2_ah
  have F39 := F30.wr W36 gb2
  have V36 : Arv Z h36 b2 c2 .char (8 : Int32) [(.int (92 : Int32)), (.int (120 : Int32)), (.int (nar .char (own_hx ((y0_ >>> ((4 : Int32) &&& 31)) &&& (15 : Int32))))), (.int (nar .char (own_hx (y0_ &&& (15 : Int32))))), (.int (nar .char (own_hx ((y1_ >>> ((4 : Int32) &&& 31)) &&& (15 : Int32))))), (.int (0 : Int32)), (.int (0 : Int32)), (.int (0 : Int32))] (.int (0 : Int32)) := Arv.set Aq36 Cq36 S36 M36 H36 G36 (fits_nar_char _) W36 4 (by decide) (by show 4 < 8; decide)
  have K36 := K27.wr W36 (Or.inr sz2)
  have N36 := Fr.snoc X36 N27 gb2
  have Zs36 : n0 ≤ h36.size := by rw [W36.size]; exact Zs27
  refine OGo.st st36 ?_
  show OG p e below Φ T36 m 46 #[rv ay, rv b2, iv 1] []
  refine OGo.st (fun _ kz => XS.aloadN X36.here hx rfl (hb hby d1_46) rfl rfl kz) ?_
  show OG p e below Φ T36 m 47 #[rv ay, rv b2, iv 1] [(.ref b2)]
  refine OGo.st (fun _ kz => XS.iconst X36.here hx rfl (hb hby d1_47) kz) ?_
  show OG p e below Φ T36 m 48 #[rv ay, rv b2, iv 1] [(.int 3), (.ref b2)]
  refine OGo.st (fun _ kz => XS.iconst X36.here hx rfl (hb hby d1_48) kz) ?_
  show OG p e below Φ T36 m 49 #[rv ay, rv b2, iv 1] [(.int 2), (.int 3), (.ref b2)]
  refine OGo.st (fun _ kz => XS.iloadN X36.here hx rfl (hb hby d1_49) rfl kz) ?_
  show OG p e below Φ T36 m 50 #[rv ay, rv b2, iv 1] [(.int 1), (.int 2), (.int 3), (.ref b2)]
  refine OGo.st (fun _ kz => XS.imul X36.here hx rfl (hb hby d1_50) rfl kz) ?_
  show OG p e below Φ T36 m 51 #[rv ay, rv b2, iv 1] [(.int 2), (.int 3), (.ref b2)]
  refine OGo.st (fun _ kz => XS.iadd X36.here hx rfl (hb hby d1_51) rfl kz) ?_
  show OG p e below Φ T36 m 52 #[rv ay, rv b2, iv 1] [(.int 5), (.ref b2)]
  have Sh40 := S_h.ext F39.2
  obtain ⟨T41, X41, e41, st41⟩ := getS2 X36 hx hZ hown (host := "") (Or.inl (ow66 hw)) Via.refl e36 Sh40 (g := (mkF m 52 #[rv ay, rv b2, iv 1] [(.int 5), (.ref b2)])) rfl (hb hby d1_52)
  refine OGo.st st41 ?_
  show OG p e below Φ T41 m 55 #[rv ay, rv b2, iv 1] [(.ref ah), (.int 5), (.ref b2)]
  refine OGo.st (fun _ kz => XS.aloadN X41.here hx rfl (hb hby d1_55) rfl rfl kz) ?_
  show OG p e below Φ T41 m 56 #[rv ay, rv b2, iv 1] [(.ref ay), (.ref ah), (.int 5), (.ref b2)]
  refine OGo.st (fun _ kz => XS.iloadN X41.here hx rfl (hb hby d1_56) rfl kz) ?_
  show OG p e below Φ T41 m 57 #[rv ay, rv b2, iv 1] [(.int 1), (.ref ay), (.ref ah), (.int 5), (.ref b2)]
  obtain ⟨cl42, Aq42, -, S42, M42, H42, -⟩ := id F37
  have in42 : ¬ ((1 : Int32) < 0 ∨ cl42.slots.size ≤ (1 : Int32).toNatClampNeg) := inb_of S42 ⟨by decide, by decide⟩
  have at42 : cl42.slots[(1 : Int32).toNatClampNeg]? = some (.int y1_) := H42.at in42 rfl
  refine OGo.st (fun _ kz => X41.baloadBytes hx (by rw [e41]; exact Aq42.1) (State.isArrayOf_alike hZ.alike Aq42.2.1) Aq42.2.2 in42 at42 (g := (mkF m 57 #[rv ay, rv b2, iv 1] [(.int 1), (.ref ay), (.ref ah), (.int 5), (.ref b2)])) rfl rfl (hb hby d1_57) _ kz) ?_
  show OG p e below Φ T41 m 58 #[rv ay, rv b2, iv 1] [(.int y1_), (.ref ah), (.int 5), (.ref b2)]
  refine OGo.st (fun _ kz => XS.bipush X41.here hx rfl (hb hby d1_58) kz) ?_
  show OG p e below Φ T41 m 60 #[rv ay, rv b2, iv 1] [(.int 15), (.int y1_), (.ref ah), (.int 5), (.ref b2)]
  refine OGo.st (fun _ kz => XS.iand X41.here hx rfl (hb hby d1_60) rfl kz) ?_
  show OG p e below Φ T41 m 61 #[rv ay, rv b2, iv 1] [(.int (y1_ &&& (15 : Int32))), (.ref ah), (.int 5), (.ref b2)]
  obtain ⟨cl43, Aq43, -, S43, M43, H43, -⟩ := id F38
  refine OGo.st (fun _ kz => X41.caload hx (by rw [e41]; exact Aq43.1) (State.isArrayOf_alike hZ.alike Aq43.2.1) Aq43.2.2 (inb_of S43 (own_m15 y1_)) (own_hexAt S43 H43 y1_) (g := (mkF m 61 #[rv ay, rv b2, iv 1] [(.int (y1_ &&& (15 : Int32))), (.ref ah), (.int 5), (.ref b2)])) rfl rfl (hb hby d1_61) _ kz) ?_
  show OG p e below Φ T41 m 62 #[rv ay, rv b2, iv 1] [(.int (own_hx (y1_ &&& (15 : Int32)))), (.int 5), (.ref b2)]
  obtain ⟨cl44, Aq44, Cq44, S44, M44, H44, G44⟩ := id V36
  have in44 : ¬ ((5 : Int32) < 0 ∨ cl44.slots.size ≤ (5 : Int32).toNatClampNeg) := inb_of S44 ⟨by decide, by decide⟩
  obtain ⟨T44, h44, X44, e44, W44, st44⟩ := stC X41 hx hZ e41 Aq44 in44 (g := (mkF m 62 #[rv ay, rv b2, iv 1] [(.int (own_hx (y1_ &&& (15 : Int32)))), (.int 5), (.ref b2)])) rfl rfl (hb hby d1_62)
  have W44 : Wr h36 h44 b2 (5 : Int32).toNatClampNeg (.int (nar .char (own_hx (y1_ &&& (15 : Int32))))) := W44
  have F45 := F37.other W44 ne2_ay
  have F46 := F38.other W44 ne2_ah
  have F47 := F39.wr W44 gb2
  have V44 : Arv Z h44 b2 c2 .char (8 : Int32) [(.int (92 : Int32)), (.int (120 : Int32)), (.int (nar .char (own_hx ((y0_ >>> ((4 : Int32) &&& 31)) &&& (15 : Int32))))), (.int (nar .char (own_hx (y0_ &&& (15 : Int32))))), (.int (nar .char (own_hx ((y1_ >>> ((4 : Int32) &&& 31)) &&& (15 : Int32))))), (.int (nar .char (own_hx (y1_ &&& (15 : Int32))))), (.int (0 : Int32)), (.int (0 : Int32))] (.int (0 : Int32)) := Arv.set Aq44 Cq44 S44 M44 H44 G44 (fits_nar_char _) W44 5 (by decide) (by show 5 < 8; decide)
  have K44 := K36.wr W44 (Or.inr sz2)
  have N44 := Fr.snoc X44 N36 gb2
  have Zs44 : n0 ≤ h44.size := by rw [W44.size]; exact Zs36
  refine OGo.st st44 ?_
  show OG p e below Φ T44 m 63 #[rv ay, rv b2, iv 1] []
  refine OGo.st (fun _ kz => XS.iinc X44.here hx rfl (hb hby d1_63) rfl (l' := #[rv ay, rv b2, iv ((1 : Int32) + (1 : Int32))]) rfl kz) ?_
  show OG p e below Φ T44 m 66 #[rv ay, rv b2, iv 2] []
  refine OGo.st (fun _ kz => XS.goto X44.here hx rfl (pc0 := 66) (pc' := 21) rfl (hb hby d1_66) (by decide) (by decide) kz) ?_
  show OG p e below Φ T44 m 21 #[rv ay, rv b2, iv 2] []
  refine OGo.st (fun _ kz => XS.iloadN X44.here hx rfl (hb hby d1_21) rfl kz) ?_
  show OG p e below Φ T44 m 22 #[rv ay, rv b2, iv 2] [(.int 2)]
  refine OGo.st (fun _ kz => XS.aloadN X44.here hx rfl (hb hby d1_22) rfl rfl kz) ?_
  show OG p e below Φ T44 m 23 #[rv ay, rv b2, iv 2] [(.ref ay), (.int 2)]
  obtain ⟨cl48, Aq48, -, S48, M48, -, -⟩ := id F45
  refine OGo.st (fun _ kz => X44.arraylength hx (by rw [e44]; exact Aq48.1) (State.isArrayOf_alike hZ.alike Aq48.2.1) (g := (mkF m 23 #[rv ay, rv b2, iv 2] [(.ref ay), (.int 2)])) rfl rfl (hb hby d1_23) _ kz) ?_
  rw [len_of S48 M48]
  show OG p e below Φ T44 m 24 #[rv ay, rv b2, iv 2] [(.int 3), (.int 2)]
  refine OGo.st (fun _ kz => XS.icmpNo X44.here hx rfl (hb hby d1_24) rfl (XT.ii_ge_f (by decide)) kz) ?_
  show OG p e below Φ T44 m 27 #[rv ay, rv b2, iv 2] []
  refine OGo.st (fun _ kz => XS.aloadN X44.here hx rfl (hb hby d1_27) rfl rfl kz) ?_
  show OG p e below Φ T44 m 28 #[rv ay, rv b2, iv 2] [(.ref b2)]
  refine OGo.st (fun _ kz => XS.iconst X44.here hx rfl (hb hby d1_28) kz) ?_
  show OG p e below Φ T44 m 29 #[rv ay, rv b2, iv 2] [(.int 2), (.ref b2)]
  refine OGo.st (fun _ kz => XS.iconst X44.here hx rfl (hb hby d1_29) kz) ?_
  show OG p e below Φ T44 m 30 #[rv ay, rv b2, iv 2] [(.int 2), (.int 2), (.ref b2)]
  refine OGo.st (fun _ kz => XS.iloadN X44.here hx rfl (hb hby d1_30) rfl kz) ?_
  show OG p e below Φ T44 m 31 #[rv ay, rv b2, iv 2] [(.int 2), (.int 2), (.int 2), (.ref b2)]
  refine OGo.st (fun _ kz => XS.imul X44.here hx rfl (hb hby d1_31) rfl kz) ?_
  show OG p e below Φ T44 m 32 #[rv ay, rv b2, iv 2] [(.int 4), (.int 2), (.ref b2)]
  refine OGo.st (fun _ kz => XS.iadd X44.here hx rfl (hb hby d1_32) rfl kz) ?_
  show OG p e below Φ T44 m 33 #[rv ay, rv b2, iv 2] [(.int 6), (.ref b2)]
  have Sh49 := S_h.ext F47.2
  obtain ⟨T50, X50, e50, st50⟩ := getS2 X44 hx hZ hown (host := "") (Or.inl (ow66 hw)) Via.refl e44 Sh49 (g := (mkF m 33 #[rv ay, rv b2, iv 2] [(.int 6), (.ref b2)])) rfl (hb hby d1_33)
  refine OGo.st st50 ?_
  show OG p e below Φ T50 m 36 #[rv ay, rv b2, iv 2] [(.ref ah), (.int 6), (.ref b2)]
  refine OGo.st (fun _ kz => XS.aloadN X50.here hx rfl (hb hby d1_36) rfl rfl kz) ?_
  show OG p e below Φ T50 m 37 #[rv ay, rv b2, iv 2] [(.ref ay), (.ref ah), (.int 6), (.ref b2)]
  refine OGo.st (fun _ kz => XS.iloadN X50.here hx rfl (hb hby d1_37) rfl kz) ?_
  show OG p e below Φ T50 m 38 #[rv ay, rv b2, iv 2] [(.int 2), (.ref ay), (.ref ah), (.int 6), (.ref b2)]
  obtain ⟨cl51, Aq51, -, S51, M51, H51, -⟩ := id F45
  have in51 : ¬ ((2 : Int32) < 0 ∨ cl51.slots.size ≤ (2 : Int32).toNatClampNeg) := inb_of S51 ⟨by decide, by decide⟩
  have at51 : cl51.slots[(2 : Int32).toNatClampNeg]? = some (.int y2_) := H51.at in51 rfl
  refine OGo.st (fun _ kz => X50.baloadBytes hx (by rw [e50]; exact Aq51.1) (State.isArrayOf_alike hZ.alike Aq51.2.1) Aq51.2.2 in51 at51 (g := (mkF m 38 #[rv ay, rv b2, iv 2] [(.int 2), (.ref ay), (.ref ah), (.int 6), (.ref b2)])) rfl rfl (hb hby d1_38) _ kz) ?_
  show OG p e below Φ T50 m 39 #[rv ay, rv b2, iv 2] [(.int y2_), (.ref ah), (.int 6), (.ref b2)]
  refine OGo.st (fun _ kz => XS.iconst X50.here hx rfl (hb hby d1_39) kz) ?_
  show OG p e below Φ T50 m 40 #[rv ay, rv b2, iv 2] [(.int 4), (.int y2_), (.ref ah), (.int 6), (.ref b2)]
  refine OGo.st (fun _ kz => XT.ishr X50.here hx rfl (hb hby d1_40) rfl kz) ?_
  show OG p e below Φ T50 m 41 #[rv ay, rv b2, iv 2] [(.int (y2_ >>> ((4 : Int32) &&& 31))), (.ref ah), (.int 6), (.ref b2)]
  refine OGo.st (fun _ kz => XS.bipush X50.here hx rfl (hb hby d1_41) kz) ?_
  show OG p e below Φ T50 m 43 #[rv ay, rv b2, iv 2] [(.int 15), (.int (y2_ >>> ((4 : Int32) &&& 31))), (.ref ah), (.int 6), (.ref b2)]
  refine OGo.st (fun _ kz => XS.iand X50.here hx rfl (hb hby d1_43) rfl kz) ?_
  show OG p e below Φ T50 m 44 #[rv ay, rv b2, iv 2] [(.int ((y2_ >>> ((4 : Int32) &&& 31)) &&& (15 : Int32))), (.ref ah), (.int 6), (.ref b2)]
  obtain ⟨cl52, Aq52, -, S52, M52, H52, -⟩ := id F46
  refine OGo.st (fun _ kz => X50.caload hx (by rw [e50]; exact Aq52.1) (State.isArrayOf_alike hZ.alike Aq52.2.1) Aq52.2.2 (inb_of S52 (own_m15 (y2_ >>> ((4 : Int32) &&& 31)))) (own_hexAt S52 H52 (y2_ >>> ((4 : Int32) &&& 31))) (g := (mkF m 44 #[rv ay, rv b2, iv 2] [(.int ((y2_ >>> ((4 : Int32) &&& 31)) &&& (15 : Int32))), (.ref ah), (.int 6), (.ref b2)])) rfl rfl (hb hby d1_44) _ kz) ?_
  show OG p e below Φ T50 m 45 #[rv ay, rv b2, iv 2] [(.int (own_hx ((y2_ >>> ((4 : Int32) &&& 31)) &&& (15 : Int32)))), (.int 6), (.ref b2)]
  obtain ⟨cl53, Aq53, Cq53, S53, M53, H53, G53⟩ := id V44
  have in53 : ¬ ((6 : Int32) < 0 ∨ cl53.slots.size ≤ (6 : Int32).toNatClampNeg) := inb_of S53 ⟨by decide, by decide⟩
  obtain ⟨T53, h53, X53, e53, W53, st53⟩ := stC X50 hx hZ e50 Aq53 in53 (g := (mkF m 45 #[rv ay, rv b2, iv 2] [(.int (own_hx ((y2_ >>> ((4 : Int32) &&& 31)) &&& (15 : Int32)))), (.int 6), (.ref b2)])) rfl rfl (hb hby d1_45)
  have W53 : Wr h44 h53 b2 (6 : Int32).toNatClampNeg (.int (nar .char (own_hx ((y2_ >>> ((4 : Int32) &&& 31)) &&& (15 : Int32))))) := W53
  have F54 := F45.other W53 ne2_ay
  have F55 := F46.other W53 ne2_ah
  have F56 := F47.wr W53 gb2
  have V53 : Arv Z h53 b2 c2 .char (8 : Int32) [(.int (92 : Int32)), (.int (120 : Int32)), (.int (nar .char (own_hx ((y0_ >>> ((4 : Int32) &&& 31)) &&& (15 : Int32))))), (.int (nar .char (own_hx (y0_ &&& (15 : Int32))))), (.int (nar .char (own_hx ((y1_ >>> ((4 : Int32) &&& 31)) &&& (15 : Int32))))), (.int (nar .char (own_hx (y1_ &&& (15 : Int32))))), (.int (nar .char (own_hx ((y2_ >>> ((4 : Int32) &&& 31)) &&& (15 : Int32))))), (.int (0 : Int32))] (.int (0 : Int32)) := Arv.set Aq53 Cq53 S53 M53 H53 G53 (fits_nar_char _) W53 6 (by decide) (by show 6 < 8; decide)
  have K53 := K44.wr W53 (Or.inr sz2)
  have N53 := Fr.snoc X53 N44 gb2
  have Zs53 : n0 ≤ h53.size := by rw [W53.size]; exact Zs44
  refine OGo.st st53 ?_
  show OG p e below Φ T53 m 46 #[rv ay, rv b2, iv 2] []
  refine OGo.st (fun _ kz => XS.aloadN X53.here hx rfl (hb hby d1_46) rfl rfl kz) ?_
  show OG p e below Φ T53 m 47 #[rv ay, rv b2, iv 2] [(.ref b2)]
  refine OGo.st (fun _ kz => XS.iconst X53.here hx rfl (hb hby d1_47) kz) ?_
  show OG p e below Φ T53 m 48 #[rv ay, rv b2, iv 2] [(.int 3), (.ref b2)]
  refine OGo.st (fun _ kz => XS.iconst X53.here hx rfl (hb hby d1_48) kz) ?_
  show OG p e below Φ T53 m 49 #[rv ay, rv b2, iv 2] [(.int 2), (.int 3), (.ref b2)]
  refine OGo.st (fun _ kz => XS.iloadN X53.here hx rfl (hb hby d1_49) rfl kz) ?_
  show OG p e below Φ T53 m 50 #[rv ay, rv b2, iv 2] [(.int 2), (.int 2), (.int 3), (.ref b2)]
  refine OGo.st (fun _ kz => XS.imul X53.here hx rfl (hb hby d1_50) rfl kz) ?_
  show OG p e below Φ T53 m 51 #[rv ay, rv b2, iv 2] [(.int 4), (.int 3), (.ref b2)]
  refine OGo.st (fun _ kz => XS.iadd X53.here hx rfl (hb hby d1_51) rfl kz) ?_
  show OG p e below Φ T53 m 52 #[rv ay, rv b2, iv 2] [(.int 7), (.ref b2)]
  have Sh57 := S_h.ext F56.2
  obtain ⟨T58, X58, e58, st58⟩ := getS2 X53 hx hZ hown (host := "") (Or.inl (ow66 hw)) Via.refl e53 Sh57 (g := (mkF m 52 #[rv ay, rv b2, iv 2] [(.int 7), (.ref b2)])) rfl (hb hby d1_52)
  refine OGo.st st58 ?_
  show OG p e below Φ T58 m 55 #[rv ay, rv b2, iv 2] [(.ref ah), (.int 7), (.ref b2)]
  refine OGo.st (fun _ kz => XS.aloadN X58.here hx rfl (hb hby d1_55) rfl rfl kz) ?_
  show OG p e below Φ T58 m 56 #[rv ay, rv b2, iv 2] [(.ref ay), (.ref ah), (.int 7), (.ref b2)]
  refine OGo.st (fun _ kz => XS.iloadN X58.here hx rfl (hb hby d1_56) rfl kz) ?_
  show OG p e below Φ T58 m 57 #[rv ay, rv b2, iv 2] [(.int 2), (.ref ay), (.ref ah), (.int 7), (.ref b2)]
  obtain ⟨cl59, Aq59, -, S59, M59, H59, -⟩ := id F54
  have in59 : ¬ ((2 : Int32) < 0 ∨ cl59.slots.size ≤ (2 : Int32).toNatClampNeg) := inb_of S59 ⟨by decide, by decide⟩
  have at59 : cl59.slots[(2 : Int32).toNatClampNeg]? = some (.int y2_) := H59.at in59 rfl
  refine OGo.st (fun _ kz => X58.baloadBytes hx (by rw [e58]; exact Aq59.1) (State.isArrayOf_alike hZ.alike Aq59.2.1) Aq59.2.2 in59 at59 (g := (mkF m 57 #[rv ay, rv b2, iv 2] [(.int 2), (.ref ay), (.ref ah), (.int 7), (.ref b2)])) rfl rfl (hb hby d1_57) _ kz) ?_
  show OG p e below Φ T58 m 58 #[rv ay, rv b2, iv 2] [(.int y2_), (.ref ah), (.int 7), (.ref b2)]
  refine OGo.st (fun _ kz => XS.bipush X58.here hx rfl (hb hby d1_58) kz) ?_
  show OG p e below Φ T58 m 60 #[rv ay, rv b2, iv 2] [(.int 15), (.int y2_), (.ref ah), (.int 7), (.ref b2)]
  refine OGo.st (fun _ kz => XS.iand X58.here hx rfl (hb hby d1_60) rfl kz) ?_
  show OG p e below Φ T58 m 61 #[rv ay, rv b2, iv 2] [(.int (y2_ &&& (15 : Int32))), (.ref ah), (.int 7), (.ref b2)]
  obtain ⟨cl60, Aq60, -, S60, M60, H60, -⟩ := id F55
  refine OGo.st (fun _ kz => X58.caload hx (by rw [e58]; exact Aq60.1) (State.isArrayOf_alike hZ.alike Aq60.2.1) Aq60.2.2 (inb_of S60 (own_m15 y2_)) (own_hexAt S60 H60 y2_) (g := (mkF m 61 #[rv ay, rv b2, iv 2] [(.int (y2_ &&& (15 : Int32))), (.ref ah), (.int 7), (.ref b2)])) rfl rfl (hb hby d1_61) _ kz) ?_
  show OG p e below Φ T58 m 62 #[rv ay, rv b2, iv 2] [(.int (own_hx (y2_ &&& (15 : Int32)))), (.int 7), (.ref b2)]
  obtain ⟨cl61, Aq61, Cq61, S61, M61, H61, G61⟩ := id V53
  have in61 : ¬ ((7 : Int32) < 0 ∨ cl61.slots.size ≤ (7 : Int32).toNatClampNeg) := inb_of S61 ⟨by decide, by decide⟩
  obtain ⟨T61, h61, X61, e61, W61, st61⟩ := stC X58 hx hZ e58 Aq61 in61 (g := (mkF m 62 #[rv ay, rv b2, iv 2] [(.int (own_hx (y2_ &&& (15 : Int32)))), (.int 7), (.ref b2)])) rfl rfl (hb hby d1_62)
  have W61 : Wr h53 h61 b2 (7 : Int32).toNatClampNeg (.int (nar .char (own_hx (y2_ &&& (15 : Int32))))) := W61
  have F62 := F54.other W61 ne2_ay
  have F63 := F55.other W61 ne2_ah
  have F64 := F56.wr W61 gb2
  have V61 : Arv Z h61 b2 c2 .char (8 : Int32) [(.int (92 : Int32)), (.int (120 : Int32)), (.int (nar .char (own_hx ((y0_ >>> ((4 : Int32) &&& 31)) &&& (15 : Int32))))), (.int (nar .char (own_hx (y0_ &&& (15 : Int32))))), (.int (nar .char (own_hx ((y1_ >>> ((4 : Int32) &&& 31)) &&& (15 : Int32))))), (.int (nar .char (own_hx (y1_ &&& (15 : Int32))))), (.int (nar .char (own_hx ((y2_ >>> ((4 : Int32) &&& 31)) &&& (15 : Int32))))), (.int (nar .char (own_hx (y2_ &&& (15 : Int32)))))] (.int (0 : Int32)) := Arv.set Aq61 Cq61 S61 M61 H61 G61 (fits_nar_char _) W61 7 (by decide) (by show 7 < 8; decide)
  have K61 := K53.wr W61 (Or.inr sz2)
  have N61 := Fr.snoc X61 N53 gb2
  have Zs61 : n0 ≤ h61.size := by rw [W61.size]; exact Zs53
  refine OGo.st st61 ?_
  show OG p e below Φ T61 m 63 #[rv ay, rv b2, iv 2] []
  refine OGo.st (fun _ kz => XS.iinc X61.here hx rfl (hb hby d1_63) rfl (l' := #[rv ay, rv b2, iv ((2 : Int32) + (1 : Int32))]) rfl kz) ?_
  show OG p e below Φ T61 m 66 #[rv ay, rv b2, iv 3] []
  refine OGo.st (fun _ kz => XS.goto X61.here hx rfl (pc0 := 66) (pc' := 21) rfl (hb hby d1_66) (by decide) (by decide) kz) ?_
  show OG p e below Φ T61 m 21 #[rv ay, rv b2, iv 3] []
  refine OGo.st (fun _ kz => XS.iloadN X61.here hx rfl (hb hby d1_21) rfl kz) ?_
  show OG p e below Φ T61 m 22 #[rv ay, rv b2, iv 3] [(.int 3)]
  refine OGo.st (fun _ kz => XS.aloadN X61.here hx rfl (hb hby d1_22) rfl rfl kz) ?_
  show OG p e below Φ T61 m 23 #[rv ay, rv b2, iv 3] [(.ref ay), (.int 3)]
  obtain ⟨cl65, Aq65, -, S65, M65, -, -⟩ := id F62
  refine OGo.st (fun _ kz => X61.arraylength hx (by rw [e61]; exact Aq65.1) (State.isArrayOf_alike hZ.alike Aq65.2.1) (g := (mkF m 23 #[rv ay, rv b2, iv 3] [(.ref ay), (.int 3)])) rfl rfl (hb hby d1_23) _ kz) ?_
  rw [len_of S65 M65]
  show OG p e below Φ T61 m 24 #[rv ay, rv b2, iv 3] [(.int 3), (.int 3)]
  refine OGo.st (fun _ kz => XS.icmpYes X61.here hx rfl (pc0 := 24) (pc' := 69) rfl (hb hby d1_24) rfl (XT.ii_ge_t (by decide)) (by decide) (by decide) kz) ?_
  show OG p e below Φ T61 m 69 #[rv ay, rv b2, iv 3] []
  obtain ⟨T66, h66, X66, e66, E66, A66, D66, U66, st66⟩ := newO X61 hx hZ hown (ow6 hw) (ow7 hw) (ow8 hw) e61 (g := (mkF m 69 #[rv ay, rv b2, iv 3] [])) rfl (hb hby d1_69) (by decide) (by decide)
  obtain ⟨b66, g66⟩ : ∃ z, z = h61.size := ⟨_, rfl⟩
  rw [← g66] at A66 D66 st66 U66
  have ne66_ah : ah ≠ b66 := by rw [g66]; exact Nat.ne_of_lt F63.lt
  have ne66_ay : ay ≠ b66 := by rw [g66]; exact Nat.ne_of_lt F62.lt
  have ne66_b2 : b2 ≠ b66 := by rw [g66]; exact Nat.ne_of_lt V61.lt
  have F67 := F62.ext E66
  have F68 := F63.ext E66
  have F69 := F64.ext E66
  have F70 := V61.ext E66
  have gb66 : n0 ≤ b66 := Nat.le_trans Zs61 (Nat.le_of_eq g66.symm)
  have K66 := K61.ext E66
  have sz66 : h0.size ≤ b66 := Nat.le_trans K61.1 (Nat.le_of_eq g66.symm)
  have Zs66 : n0 ≤ h66.size := Nat.le_trans Zs61 E66.1
  have F66_31 : Fld Z h66 b66 "java/lang/String" "coder" "B" (.int (0 : Int32)) := D66 (Or.inr (ow31 hw)) (ty := .byte) (by decide)
  have F66_33 : Fld Z h66 b66 "java/lang/String" "value" "[B" .null := D66 (Or.inr (ow33 hw)) (ty := (.array .byte)) (by decide)
  refine OGo.st (st66) ?_
  show OG p e below Φ T66 m 72 #[rv ay, rv b2, iv 3] [(.ref b66)]
  refine OGo.st (fun _ kz => XS.dup X66.here hx rfl (hb hby d1_72) rfl rfl kz) ?_
  show OG p e below Φ T66 m 73 #[rv ay, rv b2, iv 3] [(.ref b66), (.ref b66)]
  refine OGo.st (fun _ kz => XS.aloadN X66.here hx rfl (hb hby d1_73) rfl rfl kz) ?_
  show OG p e below Φ T66 m 74 #[rv ay, rv b2, iv 3] [(.ref b2), (.ref b66), (.ref b66)]
  obtain ⟨_, T71, L71, X71, hQ71, st71⟩ := own_callSp X66 hx hZ rfl hown (ow9 hw) (ow10 hw) (ow8 hw) (ow11 hw) (by decide) (rs8i1 l Z a0 hw [] b66 b2 c2 qc (92 : Int32) (120 : Int32) (nar .char (own_hx ((y0_ >>> ((4 : Int32) &&& 31)) &&& (15 : Int32)))) (nar .char (own_hx (y0_ &&& (15 : Int32)))) (nar .char (own_hx ((y1_ >>> ((4 : Int32) &&& 31)) &&& (15 : Int32)))) (nar .char (own_hx (y1_ &&& (15 : Int32)))) (nar .char (own_hx ((y2_ >>> ((4 : Int32) &&& 31)) &&& (15 : Int32)))) (nar .char (own_hx (y2_ &&& (15 : Int32)))) h66 n0 Zs66 A66 gb66 F66_33 F66_31 F70 (Ne.symm ne66_b2) (S_cs.ext F69.2) hq (by decide) (by decide) (own_hx255 _) (own_hx255 _) (own_hx255 _) (own_hx255 _) (own_hx255 _) (own_hx255 _)) e66 (W := 1) (by decide) (by decide) (by decide) (by decide) (pc := 74) (ls := #[rv ay, rv b2, iv 3]) (stk := [(.ref b2), (.ref b66), (.ref b66)]) (by rw [hml]; rfl) (a := b66) (argsL := [(.ref b2)]) (rest := [(.ref b66)]) (lenOf pd5 rfl) rfl rfl (Nat.le_of_eq rfl) (hb hby d1_74)
  obtain ⟨rfl, Nq71, Kq71, Eq71, b71, cb71, Fv71, Fc71, Vq71, hz71⟩ := hQ71
  have nq71_ah : ah ≠ b71 := Nat.ne_of_lt (Nat.lt_of_lt_of_le F68.lt hz71)
  have nq71_ay : ay ≠ b71 := Nat.ne_of_lt (Nat.lt_of_lt_of_le F67.lt hz71)
  have nq71_b2 : b2 ≠ b71 := Nat.ne_of_lt (Nat.lt_of_lt_of_le F70.lt hz71)
  have nq71_b66 : b66 ≠ b71 := Nat.ne_of_lt (Nat.lt_of_lt_of_le A66.lt hz71)
  have gq71 : n0 ≤ b71 := Nat.le_trans Zs66 hz71
  have sq71 : h0.size ≤ b71 := Nat.le_trans K66.1 hz71
  have N71 := Fr.app N61 Nq71
  have Zs71 : n0 ≤ T71.heap.size := Nat.le_trans Zs66 Kq71.1
  have F72 := F67.keep Kq71 (ninS ne66_ay nin0)
  have F73 := F68.keep Kq71 (ninS ne66_ah nin0)
  have F74 := F69.keep Kq71 (allS gb66 all0)
  have F75 := F70.keep Kq71 (ninS ne66_b2 nin0)
  have K71 := K66.trans Kq71 (allS (Or.inr sz66) all0)
  refine OGo.st st71 ?_
  show OG p e below Φ T71 m 77 #[rv ay, rv b2, iv 3] [(.ref b66)]
  refine OGo.fin X71 hlk (v := (some (.ref b66))) (fun h => by rw [hret] at h; cases h) (by decide) (by decide) (fun fs hr => X71.areturnOut hx rfl hret rfl (hb hby d1_77) hr) fun U eU hF => hΦ _ _ _ ?_ hF
  rw [eU]
  show Q_rof3 Z ay cy y0_ y1_ y2_ ah ch qc h0 n0 _ _ _
  exact ⟨_, _, _, rfl, N71, K71, Eq71, Fv71, Fc71, Vq71, sz66, sq71, nq71_b66⟩

theorem ef_rgle8 (m : MethodId) (x0 : Addr) : entryFrame m #[(.ref x0)] 1 = mkF m 0 #[.val (.ref x0)] [] := by first | (simp [entryFrame, mkF, argsToLocals, Value.category]; done) | rfl
def Q_rgle8 (Z : State) (s_ : Addr) (b : Addr) (cb : ClassId) (qc : Int32) (c0_ : Int32) (c1_ : Int32) (c2_ : Int32) (c3_ : Int32) (c4_ : Int32) (c5_ : Int32) (c6_ : Int32) (c7_ : Int32) (h0 : Heap) (n0 : Nat) (v : Option Value) (h : Heap) (L : List Loc) : Prop := v = some (.int (8 : Int32)) ∧ Fr n0 L ∧ h = h0
set_option maxRecDepth 65536 in
set_option maxHeartbeats 40000000 in
theorem rgle8 (l : Launch) (Z : State) (a0 : Array Value) (hw : ∀ d ∈ tables_1, d.before a0 Z = true) (ws : List Jvm.Cond) (s_ : Addr) (b : Addr) (cb : ClassId) (qc : Int32) (c0_ : Int32) (c1_ : Int32) (c2_ : Int32) (c3_ : Int32) (c4_ : Int32) (c5_ : Int32) (c6_ : Int32) (c7_ : Int32) (h0 : Heap) (n0 : Nat) (Z0 : n0 ≤ h0.size) (E_s : Exa Z h0 s_ "java/lang/String") (F_v : Fld Z h0 s_ "java/lang/String" "value" "[B" (.ref b)) (F_c : Fld Z h0 s_ "java/lang/String" "coder" "B" (.int (0 : Int32))) (V_b : Arv Z h0 b cb .byte (8 : Int32) [(.int c0_), (.int c1_), (.int c2_), (.int c3_), (.int c4_), (.int c5_), (.int c6_), (.int c7_)] (.int (0 : Int32))) (S_q : Sta Z h0 "java/lang/String" "COMPACT_STRINGS" "Z" (.int qc)) (hq : ¬ qc = 0) :
    OCon l Z (⟨"java/lang/String", "length", "()I"⟩ : MethodName) jdk_42_method_54_code 1 (some .int) ws ({ frames := 1, cells := 0, slots := 0, locals := 13 } : Room) #[(.ref s_)] h0 (Q_rgle8 Z s_ b cb qc c0_ c1_ c2_ c3_ c4_ c5_ c6_ c7_ h0 n0) := by
  refine OCon.of (plainFor_of_name pn0) ?_
  intro p e s m below meth c s₁ Φ X0 hx hby hml hown hnm hret hlk hZ e0 hΦ
  have N0 := Fr.nil n0
  refine OGo.st (fun _ kz => castTop (ef_rgle8 m s_) kz) ?_
  show OG p e below Φ s₁ m 0 #[rv s_] []
  refine OGo.st (fun _ kz => XS.aloadN X0.here hx rfl (hb hby d8_0) rfl rfl kz) ?_
  show OG p e below Φ s₁ m 1 #[rv s_] [(.ref s_)]
  obtain ⟨T1, X1, e1, st1⟩ := getF X0 hx hZ hown (host := "") (Or.inl (ow32 hw)) Via.refl e0 F_v (g := (mkF m 1 #[rv s_] [(.ref s_)])) rfl rfl (hb hby d8_1)
  refine OGo.st st1 ?_
  show OG p e below Φ T1 m 4 #[rv s_] [(.ref b)]
  obtain ⟨cl2, Aq2, -, S2, M2, -, -⟩ := id V_b
  refine OGo.st (fun _ kz => X1.arraylength hx (by rw [e1]; exact Aq2.1) (State.isArrayOf_alike hZ.alike Aq2.2.1) (g := (mkF m 4 #[rv s_] [(.ref b)])) rfl rfl (hb hby d8_4) _ kz) ?_
  rw [len_of S2 M2]
  show OG p e below Φ T1 m 5 #[rv s_] [(.int 8)]
  refine OGo.st (fun _ kz => XS.aloadN X1.here hx rfl (hb hby d8_5) rfl rfl kz) ?_
  show OG p e below Φ T1 m 6 #[rv s_] [(.ref s_), (.int 8)]
  obtain ⟨_, T3, L3, X3, hQ3, st3⟩ := own_callVi X1 hx hZ hown (ow39 hw) (ow40 hw) (notFace_of_selects (args := #[]) (mvT hZ (ow42 hw))) (ow42 hw) (ow41 hw) (ow8 hw) (ow43 hw) (by decide) (rgco l Z a0 hw [] s_ qc h0 n0 Z0 F_c S_q hq) e1 (W := 1) (by decide) (by decide) (by decide) (by decide) E_s (pc := 6) (ls := #[rv s_]) (stk := [(.ref s_), (.int 8)]) (by rw [hml]; rfl) (argsL := []) (rest := [(.int 8)]) (lenOf pd6 rfl) rfl rfl (Nat.le_of_eq rfl) (hb hby d8_6)
  obtain ⟨rfl, Nq3, e3⟩ := hQ3
  have N3 := Fr.app N0 Nq3
  refine OGo.st st3 ?_
  show OG p e below Φ T3 m 9 #[rv s_] [(.int 0), (.int 8)]
  refine OGo.st (fun _ kz => XT.ishr X3.here hx rfl (hb hby d8_9) rfl kz) ?_
  show OG p e below Φ T3 m 10 #[rv s_] [(.int 8)]
  refine OGo.fin X3 hlk (v := (some (.int 8))) (fun h => by rw [hret] at h; cases h) (by decide) (by decide) (fun fs hr => X3.ireturnOut hx hret rfl (by simp) (hb hby d8_10) hr) fun U eU hF => hΦ _ _ _ ?_ hF
  rw [eU, e3]
  show Q_rgle8 Z s_ b cb qc c0_ c1_ c2_ c3_ c4_ c5_ c6_ c7_ h0 n0 _ _ _
  exact ⟨rfl, N3, rfl⟩

theorem ef_rgl8_0 (m : MethodId) (x0 : Addr) (x1 : Int32) : entryFrame m #[(.ref x0), (.int x1)] 2 = mkF m 0 #[.val (.ref x0), .val (.int x1)] [] := by first | (simp [entryFrame, mkF, argsToLocals, Value.category]; done) | rfl
def Q_rgl8_0 (Z : State) (b : Addr) (cb : ClassId) (vf : Value) (c0_ : Int32) (c1_ : Int32) (c2_ : Int32) (c3_ : Int32) (c4_ : Int32) (c5_ : Int32) (c6_ : Int32) (c7_ : Int32) (h0 : Heap) (n0 : Nat) (v : Option Value) (h : Heap) (L : List Loc) : Prop := v = some (.int ((c0_ &&& (255 : Int32)).toUInt32.toUInt16.toUInt32.toInt32)) ∧ Fr n0 L ∧ h = h0
set_option maxRecDepth 65536 in
set_option maxHeartbeats 40000000 in
theorem rgl8_0 (l : Launch) (Z : State) (a0 : Array Value) (hw : ∀ d ∈ tables_1, d.before a0 Z = true) (ws : List Jvm.Cond) (b : Addr) (cb : ClassId) (vf : Value) (c0_ : Int32) (c1_ : Int32) (c2_ : Int32) (c3_ : Int32) (c4_ : Int32) (c5_ : Int32) (c6_ : Int32) (c7_ : Int32) (h0 : Heap) (n0 : Nat) (Z0 : n0 ≤ h0.size) (V_b : Arv Z h0 b cb .byte (8 : Int32) [(.int c0_), (.int c1_), (.int c2_), (.int c3_), (.int c4_), (.int c5_), (.int c6_), (.int c7_)] (.int (0 : Int32))) (S_f : Sta Z h0 "jdk/internal/util/Preconditions" "SIOOBE_FORMATTER" "Ljava/util/function/BiFunction;" vf) (rvf : vf.isRef = true) :
    OCon l Z (⟨"java/lang/StringLatin1", "charAt", "([BI)C"⟩ : MethodName) jdk_43_method_2_code 2 (some .char) ws ({ frames := 2, cells := 0, slots := 0, locals := 27 } : Room) #[(.ref b), (.int (0 : Int32))] h0 (Q_rgl8_0 Z b cb vf c0_ c1_ c2_ c3_ c4_ c5_ c6_ c7_ h0 n0) := by
  refine OCon.of (plainFor_of_name pn5) ?_
  intro p e s m below meth c s₁ Φ X0 hx hby hml hown hnm hret hlk hZ e0 hΦ
  have N0 := Fr.nil n0
  refine OGo.st (fun _ kz => castTop (ef_rgl8_0 m b (0 : Int32)) kz) ?_
  show OG p e below Φ s₁ m 0 #[rv b, iv 0] []
  refine OGo.st (fun _ kz => XS.iloadN X0.here hx rfl (hb hby d12_0) rfl kz) ?_
  show OG p e below Φ s₁ m 1 #[rv b, iv 0] [(.int 0)]
  refine OGo.st (fun _ kz => XS.aloadN X0.here hx rfl (hb hby d12_1) rfl rfl kz) ?_
  show OG p e below Φ s₁ m 2 #[rv b, iv 0] [(.ref b), (.int 0)]
  obtain ⟨cl1, Aq1, -, S1, M1, -, -⟩ := id V_b
  refine OGo.st (fun _ kz => X0.arraylength hx (by rw [e0]; exact Aq1.1) (State.isArrayOf_alike hZ.alike Aq1.2.1) (g := (mkF m 2 #[rv b, iv 0] [(.ref b), (.int 0)])) rfl rfl (hb hby d12_2) _ kz) ?_
  rw [len_of S1 M1]
  show OG p e below Φ s₁ m 3 #[rv b, iv 0] [(.int 8), (.int 0)]
  obtain ⟨_, T2, L2, X2, hQ2, st2⟩ := own_callSt X0 hx hZ hown (ow58 hw) (ow59 hw) (ow8 hw) (ow60 hw) (by decide) (rgci l Z a0 hw [] (0 : Int32) (8 : Int32) vf h0 n0 Z0 (by decide) (by decide) S_f rvf) e0 (W := 0) (by decide) (by decide) (by decide) (by decide) (pc := 3) (ls := #[rv b, iv 0]) (stk := [(.int 8), (.int 0)]) (by rw [hml]; rfl) (argsL := [(.int 0), (.int 8)]) (rest := []) (lenOf pd7 rfl) rfl rfl (Nat.le_of_eq rfl) (hb hby d12_3)
  obtain ⟨rfl, Nq2, e2⟩ := hQ2
  have N2 := Fr.app N0 Nq2
  refine OGo.st st2 ?_
  show OG p e below Φ T2 m 6 #[rv b, iv 0] []
  refine OGo.st (fun _ kz => XS.aloadN X2.here hx rfl (hb hby d12_6) rfl rfl kz) ?_
  show OG p e below Φ T2 m 7 #[rv b, iv 0] [(.ref b)]
  refine OGo.st (fun _ kz => XS.iloadN X2.here hx rfl (hb hby d12_7) rfl kz) ?_
  show OG p e below Φ T2 m 8 #[rv b, iv 0] [(.int 0), (.ref b)]
  obtain ⟨cl3, Aq3, -, S3, M3, H3, -⟩ := id V_b
  have in3 : ¬ ((0 : Int32) < 0 ∨ cl3.slots.size ≤ (0 : Int32).toNatClampNeg) := inb_of S3 ⟨by decide, by decide⟩
  have at3 : cl3.slots[(0 : Int32).toNatClampNeg]? = some (.int c0_) := H3.at in3 rfl
  refine OGo.st (fun _ kz => X2.baloadBytes hx (by rw [e2]; exact Aq3.1) (State.isArrayOf_alike hZ.alike Aq3.2.1) Aq3.2.2 in3 at3 (g := (mkF m 8 #[rv b, iv 0] [(.int 0), (.ref b)])) rfl rfl (hb hby d12_8) _ kz) ?_
  show OG p e below Φ T2 m 9 #[rv b, iv 0] [(.int c0_)]
  refine OGo.st (fun _ kz => XS.sipush X2.here hx rfl (hb hby d12_9) kz) ?_
  show OG p e below Φ T2 m 12 #[rv b, iv 0] [(.int 255), (.int c0_)]
  refine OGo.st (fun _ kz => XS.iand X2.here hx rfl (hb hby d12_12) rfl kz) ?_
  show OG p e below Φ T2 m 13 #[rv b, iv 0] [(.int (c0_ &&& (255 : Int32)))]
  refine OGo.st (fun _ kz => XT.i2c X2.here hx rfl (hb hby d12_13) rfl kz) ?_
  show OG p e below Φ T2 m 14 #[rv b, iv 0] [(.int ((c0_ &&& (255 : Int32)).toUInt32.toUInt16.toUInt32.toInt32))]
  refine OGo.fin X2 hlk (v := (some (.int ((c0_ &&& (255 : Int32)).toUInt32.toUInt16.toUInt32.toInt32)))) (fun h => by rw [hret] at h; cases h) (by decide) (by decide) (fun fs hr => X2.ireturnOut hx hret (XT.narrow_c _) (by simp) (hb hby d12_14) hr) fun U eU hF => hΦ _ _ _ ?_ hF
  rw [eU, e2]
  show Q_rgl8_0 Z b cb vf c0_ c1_ c2_ c3_ c4_ c5_ c6_ c7_ h0 n0 _ _ _
  exact ⟨rfl, N2, rfl⟩

theorem ef_rgh8_0 (m : MethodId) (x0 : Addr) (x1 : Int32) : entryFrame m #[(.ref x0), (.int x1)] 2 = mkF m 0 #[.val (.ref x0), .val (.int x1)] [] := by first | (simp [entryFrame, mkF, argsToLocals, Value.category]; done) | rfl
def Q_rgh8_0 (Z : State) (s_ : Addr) (b : Addr) (cb : ClassId) (qc : Int32) (vf : Value) (c0_ : Int32) (c1_ : Int32) (c2_ : Int32) (c3_ : Int32) (c4_ : Int32) (c5_ : Int32) (c6_ : Int32) (c7_ : Int32) (h0 : Heap) (n0 : Nat) (v : Option Value) (h : Heap) (L : List Loc) : Prop := v = some (.int ((c0_ &&& (255 : Int32)).toUInt32.toUInt16.toUInt32.toInt32)) ∧ Fr n0 L ∧ h = h0
set_option maxRecDepth 65536 in
set_option maxHeartbeats 40000000 in
theorem rgh8_0 (l : Launch) (Z : State) (a0 : Array Value) (hw : ∀ d ∈ tables_1, d.before a0 Z = true) (ws : List Jvm.Cond) (s_ : Addr) (b : Addr) (cb : ClassId) (qc : Int32) (vf : Value) (c0_ : Int32) (c1_ : Int32) (c2_ : Int32) (c3_ : Int32) (c4_ : Int32) (c5_ : Int32) (c6_ : Int32) (c7_ : Int32) (h0 : Heap) (n0 : Nat) (Z0 : n0 ≤ h0.size) (E_s : Exa Z h0 s_ "java/lang/String") (F_v : Fld Z h0 s_ "java/lang/String" "value" "[B" (.ref b)) (F_c : Fld Z h0 s_ "java/lang/String" "coder" "B" (.int (0 : Int32))) (V_b : Arv Z h0 b cb .byte (8 : Int32) [(.int c0_), (.int c1_), (.int c2_), (.int c3_), (.int c4_), (.int c5_), (.int c6_), (.int c7_)] (.int (0 : Int32))) (S_q : Sta Z h0 "java/lang/String" "COMPACT_STRINGS" "Z" (.int qc)) (hq : ¬ qc = 0) (S_f : Sta Z h0 "jdk/internal/util/Preconditions" "SIOOBE_FORMATTER" "Ljava/util/function/BiFunction;" vf) (rvf : vf.isRef = true) :
    OCon l Z (⟨"java/lang/String", "charAt", "(I)C"⟩ : MethodName) jdk_42_method_56_code 2 (some .char) ws ({ frames := 3, cells := 0, slots := 0, locals := 40 } : Room) #[(.ref s_), (.int (0 : Int32))] h0 (Q_rgh8_0 Z s_ b cb qc vf c0_ c1_ c2_ c3_ c4_ c5_ c6_ c7_ h0 n0) := by
  refine OCon.of (plainFor_of_name pn0) ?_
  intro p e s m below meth c s₁ Φ X0 hx hby hml hown hnm hret hlk hZ e0 hΦ
  have N0 := Fr.nil n0
  refine OGo.st (fun _ kz => castTop (ef_rgh8_0 m s_ (0 : Int32)) kz) ?_
  show OG p e below Φ s₁ m 0 #[rv s_, iv 0] []
  refine OGo.st (fun _ kz => XS.aloadN X0.here hx rfl (hb hby d10_0) rfl rfl kz) ?_
  show OG p e below Φ s₁ m 1 #[rv s_, iv 0] [(.ref s_)]
  obtain ⟨_, T1, L1, X1, hQ1, st1⟩ := own_callVi X0 hx hZ hown (ow49 hw) (ow50 hw) (notFace_of_selects (args := #[]) (mvT hZ (ow52 hw))) (ow52 hw) (ow51 hw) (ow8 hw) (ow53 hw) (by decide) (rgis l Z a0 hw [] s_ qc h0 n0 Z0 F_c S_q hq) e0 (W := 0) (by decide) (by decide) (by decide) (by decide) E_s (pc := 1) (ls := #[rv s_, iv 0]) (stk := [(.ref s_)]) (by rw [hml]; rfl) (argsL := []) (rest := []) (lenOf pd8 rfl) rfl rfl (Nat.le_of_eq rfl) (hb hby d10_1)
  obtain ⟨rfl, Nq1, e1⟩ := hQ1
  have N1 := Fr.app N0 Nq1
  refine OGo.st st1 ?_
  show OG p e below Φ T1 m 4 #[rv s_, iv 0] [(.int 1)]
  refine OGo.st (fun _ kz => XS.ifNo X1.here hx rfl (hb hby d10_4) rfl (XT.i0_eq_f (by decide)) kz) ?_
  show OG p e below Φ T1 m 7 #[rv s_, iv 0] []
  refine OGo.st (fun _ kz => XS.aloadN X1.here hx rfl (hb hby d10_7) rfl rfl kz) ?_
  show OG p e below Φ T1 m 8 #[rv s_, iv 0] [(.ref s_)]
  obtain ⟨T2, X2, e2, st2⟩ := getF X1 hx hZ hown (host := "") (Or.inl (ow32 hw)) Via.refl e1 F_v (g := (mkF m 8 #[rv s_, iv 0] [(.ref s_)])) rfl rfl (hb hby d10_8)
  refine OGo.st st2 ?_
  show OG p e below Φ T2 m 11 #[rv s_, iv 0] [(.ref b)]
  refine OGo.st (fun _ kz => XS.iloadN X2.here hx rfl (hb hby d10_11) rfl kz) ?_
  show OG p e below Φ T2 m 12 #[rv s_, iv 0] [(.int 0), (.ref b)]
  obtain ⟨_, T3, L3, X3, hQ3, st3⟩ := own_callSt X2 hx hZ hown (ow54 hw) (ow55 hw) (ow56 hw) (ow57 hw) (by decide) (rgl8_0 l Z a0 hw [] b cb vf c0_ c1_ c2_ c3_ c4_ c5_ c6_ c7_ h0 n0 Z0 V_b S_f rvf) e2 (W := 0) (by decide) (by decide) (by decide) (by decide) (pc := 12) (ls := #[rv s_, iv 0]) (stk := [(.int 0), (.ref b)]) (by rw [hml]; rfl) (argsL := [(.ref b), (.int 0)]) (rest := []) (lenOf pd9 rfl) rfl rfl (Nat.le_of_eq rfl) (hb hby d10_12)
  obtain ⟨rfl, Nq3, e3⟩ := hQ3
  have N3 := Fr.app N1 Nq3
  refine OGo.st st3 ?_
  show OG p e below Φ T3 m 15 #[rv s_, iv 0] [(.int ((c0_ &&& (255 : Int32)).toUInt32.toUInt16.toUInt32.toInt32))]
  refine OGo.fin X3 hlk (v := (some (.int ((c0_ &&& (255 : Int32)).toUInt32.toUInt16.toUInt32.toInt32)))) (fun h => by rw [hret] at h; cases h) (by decide) (by decide) (fun fs hr => X3.ireturnOut hx hret (XT.narrow_c _) (by simp) (hb hby d10_15) hr) fun U eU hF => hΦ _ _ _ ?_ hF
  rw [eU, e3]
  show Q_rgh8_0 Z s_ b cb qc vf c0_ c1_ c2_ c3_ c4_ c5_ c6_ c7_ h0 n0 _ _ _
  exact ⟨rfl, N3, rfl⟩

theorem ef_rgl8_1 (m : MethodId) (x0 : Addr) (x1 : Int32) : entryFrame m #[(.ref x0), (.int x1)] 2 = mkF m 0 #[.val (.ref x0), .val (.int x1)] [] := by first | (simp [entryFrame, mkF, argsToLocals, Value.category]; done) | rfl
def Q_rgl8_1 (Z : State) (b : Addr) (cb : ClassId) (vf : Value) (c0_ : Int32) (c1_ : Int32) (c2_ : Int32) (c3_ : Int32) (c4_ : Int32) (c5_ : Int32) (c6_ : Int32) (c7_ : Int32) (h0 : Heap) (n0 : Nat) (v : Option Value) (h : Heap) (L : List Loc) : Prop := v = some (.int ((c1_ &&& (255 : Int32)).toUInt32.toUInt16.toUInt32.toInt32)) ∧ Fr n0 L ∧ h = h0
set_option maxRecDepth 65536 in
set_option maxHeartbeats 40000000 in
theorem rgl8_1 (l : Launch) (Z : State) (a0 : Array Value) (hw : ∀ d ∈ tables_1, d.before a0 Z = true) (ws : List Jvm.Cond) (b : Addr) (cb : ClassId) (vf : Value) (c0_ : Int32) (c1_ : Int32) (c2_ : Int32) (c3_ : Int32) (c4_ : Int32) (c5_ : Int32) (c6_ : Int32) (c7_ : Int32) (h0 : Heap) (n0 : Nat) (Z0 : n0 ≤ h0.size) (V_b : Arv Z h0 b cb .byte (8 : Int32) [(.int c0_), (.int c1_), (.int c2_), (.int c3_), (.int c4_), (.int c5_), (.int c6_), (.int c7_)] (.int (0 : Int32))) (S_f : Sta Z h0 "jdk/internal/util/Preconditions" "SIOOBE_FORMATTER" "Ljava/util/function/BiFunction;" vf) (rvf : vf.isRef = true) :
    OCon l Z (⟨"java/lang/StringLatin1", "charAt", "([BI)C"⟩ : MethodName) jdk_43_method_2_code 2 (some .char) ws ({ frames := 2, cells := 0, slots := 0, locals := 27 } : Room) #[(.ref b), (.int (1 : Int32))] h0 (Q_rgl8_1 Z b cb vf c0_ c1_ c2_ c3_ c4_ c5_ c6_ c7_ h0 n0) := by
  refine OCon.of (plainFor_of_name pn5) ?_
  intro p e s m below meth c s₁ Φ X0 hx hby hml hown hnm hret hlk hZ e0 hΦ
  have N0 := Fr.nil n0
  refine OGo.st (fun _ kz => castTop (ef_rgl8_1 m b (1 : Int32)) kz) ?_
  show OG p e below Φ s₁ m 0 #[rv b, iv 1] []
  refine OGo.st (fun _ kz => XS.iloadN X0.here hx rfl (hb hby d12_0) rfl kz) ?_
  show OG p e below Φ s₁ m 1 #[rv b, iv 1] [(.int 1)]
  refine OGo.st (fun _ kz => XS.aloadN X0.here hx rfl (hb hby d12_1) rfl rfl kz) ?_
  show OG p e below Φ s₁ m 2 #[rv b, iv 1] [(.ref b), (.int 1)]
  obtain ⟨cl1, Aq1, -, S1, M1, -, -⟩ := id V_b
  refine OGo.st (fun _ kz => X0.arraylength hx (by rw [e0]; exact Aq1.1) (State.isArrayOf_alike hZ.alike Aq1.2.1) (g := (mkF m 2 #[rv b, iv 1] [(.ref b), (.int 1)])) rfl rfl (hb hby d12_2) _ kz) ?_
  rw [len_of S1 M1]
  show OG p e below Φ s₁ m 3 #[rv b, iv 1] [(.int 8), (.int 1)]
  obtain ⟨_, T2, L2, X2, hQ2, st2⟩ := own_callSt X0 hx hZ hown (ow58 hw) (ow59 hw) (ow8 hw) (ow60 hw) (by decide) (rgci l Z a0 hw [] (1 : Int32) (8 : Int32) vf h0 n0 Z0 (by decide) (by decide) S_f rvf) e0 (W := 0) (by decide) (by decide) (by decide) (by decide) (pc := 3) (ls := #[rv b, iv 1]) (stk := [(.int 8), (.int 1)]) (by rw [hml]; rfl) (argsL := [(.int 1), (.int 8)]) (rest := []) (lenOf pd7 rfl) rfl rfl (Nat.le_of_eq rfl) (hb hby d12_3)
  obtain ⟨rfl, Nq2, e2⟩ := hQ2
  have N2 := Fr.app N0 Nq2
  refine OGo.st st2 ?_
  show OG p e below Φ T2 m 6 #[rv b, iv 1] []
  refine OGo.st (fun _ kz => XS.aloadN X2.here hx rfl (hb hby d12_6) rfl rfl kz) ?_
  show OG p e below Φ T2 m 7 #[rv b, iv 1] [(.ref b)]
  refine OGo.st (fun _ kz => XS.iloadN X2.here hx rfl (hb hby d12_7) rfl kz) ?_
  show OG p e below Φ T2 m 8 #[rv b, iv 1] [(.int 1), (.ref b)]
  obtain ⟨cl3, Aq3, -, S3, M3, H3, -⟩ := id V_b
  have in3 : ¬ ((1 : Int32) < 0 ∨ cl3.slots.size ≤ (1 : Int32).toNatClampNeg) := inb_of S3 ⟨by decide, by decide⟩
  have at3 : cl3.slots[(1 : Int32).toNatClampNeg]? = some (.int c1_) := H3.at in3 rfl
  refine OGo.st (fun _ kz => X2.baloadBytes hx (by rw [e2]; exact Aq3.1) (State.isArrayOf_alike hZ.alike Aq3.2.1) Aq3.2.2 in3 at3 (g := (mkF m 8 #[rv b, iv 1] [(.int 1), (.ref b)])) rfl rfl (hb hby d12_8) _ kz) ?_
  show OG p e below Φ T2 m 9 #[rv b, iv 1] [(.int c1_)]
  refine OGo.st (fun _ kz => XS.sipush X2.here hx rfl (hb hby d12_9) kz) ?_
  show OG p e below Φ T2 m 12 #[rv b, iv 1] [(.int 255), (.int c1_)]
  refine OGo.st (fun _ kz => XS.iand X2.here hx rfl (hb hby d12_12) rfl kz) ?_
  show OG p e below Φ T2 m 13 #[rv b, iv 1] [(.int (c1_ &&& (255 : Int32)))]
  refine OGo.st (fun _ kz => XT.i2c X2.here hx rfl (hb hby d12_13) rfl kz) ?_
  show OG p e below Φ T2 m 14 #[rv b, iv 1] [(.int ((c1_ &&& (255 : Int32)).toUInt32.toUInt16.toUInt32.toInt32))]
  refine OGo.fin X2 hlk (v := (some (.int ((c1_ &&& (255 : Int32)).toUInt32.toUInt16.toUInt32.toInt32)))) (fun h => by rw [hret] at h; cases h) (by decide) (by decide) (fun fs hr => X2.ireturnOut hx hret (XT.narrow_c _) (by simp) (hb hby d12_14) hr) fun U eU hF => hΦ _ _ _ ?_ hF
  rw [eU, e2]
  show Q_rgl8_1 Z b cb vf c0_ c1_ c2_ c3_ c4_ c5_ c6_ c7_ h0 n0 _ _ _
  exact ⟨rfl, N2, rfl⟩

theorem ef_rgh8_1 (m : MethodId) (x0 : Addr) (x1 : Int32) : entryFrame m #[(.ref x0), (.int x1)] 2 = mkF m 0 #[.val (.ref x0), .val (.int x1)] [] := by first | (simp [entryFrame, mkF, argsToLocals, Value.category]; done) | rfl
def Q_rgh8_1 (Z : State) (s_ : Addr) (b : Addr) (cb : ClassId) (qc : Int32) (vf : Value) (c0_ : Int32) (c1_ : Int32) (c2_ : Int32) (c3_ : Int32) (c4_ : Int32) (c5_ : Int32) (c6_ : Int32) (c7_ : Int32) (h0 : Heap) (n0 : Nat) (v : Option Value) (h : Heap) (L : List Loc) : Prop := v = some (.int ((c1_ &&& (255 : Int32)).toUInt32.toUInt16.toUInt32.toInt32)) ∧ Fr n0 L ∧ h = h0
set_option maxRecDepth 65536 in
set_option maxHeartbeats 40000000 in
theorem rgh8_1 (l : Launch) (Z : State) (a0 : Array Value) (hw : ∀ d ∈ tables_1, d.before a0 Z = true) (ws : List Jvm.Cond) (s_ : Addr) (b : Addr) (cb : ClassId) (qc : Int32) (vf : Value) (c0_ : Int32) (c1_ : Int32) (c2_ : Int32) (c3_ : Int32) (c4_ : Int32) (c5_ : Int32) (c6_ : Int32) (c7_ : Int32) (h0 : Heap) (n0 : Nat) (Z0 : n0 ≤ h0.size) (E_s : Exa Z h0 s_ "java/lang/String") (F_v : Fld Z h0 s_ "java/lang/String" "value" "[B" (.ref b)) (F_c : Fld Z h0 s_ "java/lang/String" "coder" "B" (.int (0 : Int32))) (V_b : Arv Z h0 b cb .byte (8 : Int32) [(.int c0_), (.int c1_), (.int c2_), (.int c3_), (.int c4_), (.int c5_), (.int c6_), (.int c7_)] (.int (0 : Int32))) (S_q : Sta Z h0 "java/lang/String" "COMPACT_STRINGS" "Z" (.int qc)) (hq : ¬ qc = 0) (S_f : Sta Z h0 "jdk/internal/util/Preconditions" "SIOOBE_FORMATTER" "Ljava/util/function/BiFunction;" vf) (rvf : vf.isRef = true) :
    OCon l Z (⟨"java/lang/String", "charAt", "(I)C"⟩ : MethodName) jdk_42_method_56_code 2 (some .char) ws ({ frames := 3, cells := 0, slots := 0, locals := 40 } : Room) #[(.ref s_), (.int (1 : Int32))] h0 (Q_rgh8_1 Z s_ b cb qc vf c0_ c1_ c2_ c3_ c4_ c5_ c6_ c7_ h0 n0) := by
  refine OCon.of (plainFor_of_name pn0) ?_
  intro p e s m below meth c s₁ Φ X0 hx hby hml hown hnm hret hlk hZ e0 hΦ
  have N0 := Fr.nil n0
  refine OGo.st (fun _ kz => castTop (ef_rgh8_1 m s_ (1 : Int32)) kz) ?_
  show OG p e below Φ s₁ m 0 #[rv s_, iv 1] []
  refine OGo.st (fun _ kz => XS.aloadN X0.here hx rfl (hb hby d10_0) rfl rfl kz) ?_
  show OG p e below Φ s₁ m 1 #[rv s_, iv 1] [(.ref s_)]
  obtain ⟨_, T1, L1, X1, hQ1, st1⟩ := own_callVi X0 hx hZ hown (ow49 hw) (ow50 hw) (notFace_of_selects (args := #[]) (mvT hZ (ow52 hw))) (ow52 hw) (ow51 hw) (ow8 hw) (ow53 hw) (by decide) (rgis l Z a0 hw [] s_ qc h0 n0 Z0 F_c S_q hq) e0 (W := 0) (by decide) (by decide) (by decide) (by decide) E_s (pc := 1) (ls := #[rv s_, iv 1]) (stk := [(.ref s_)]) (by rw [hml]; rfl) (argsL := []) (rest := []) (lenOf pd8 rfl) rfl rfl (Nat.le_of_eq rfl) (hb hby d10_1)
  obtain ⟨rfl, Nq1, e1⟩ := hQ1
  have N1 := Fr.app N0 Nq1
  refine OGo.st st1 ?_
  show OG p e below Φ T1 m 4 #[rv s_, iv 1] [(.int 1)]
  refine OGo.st (fun _ kz => XS.ifNo X1.here hx rfl (hb hby d10_4) rfl (XT.i0_eq_f (by decide)) kz) ?_
  show OG p e below Φ T1 m 7 #[rv s_, iv 1] []
  refine OGo.st (fun _ kz => XS.aloadN X1.here hx rfl (hb hby d10_7) rfl rfl kz) ?_
  show OG p e below Φ T1 m 8 #[rv s_, iv 1] [(.ref s_)]
  obtain ⟨T2, X2, e2, st2⟩ := getF X1 hx hZ hown (host := "") (Or.inl (ow32 hw)) Via.refl e1 F_v (g := (mkF m 8 #[rv s_, iv 1] [(.ref s_)])) rfl rfl (hb hby d10_8)
  refine OGo.st st2 ?_
  show OG p e below Φ T2 m 11 #[rv s_, iv 1] [(.ref b)]
  refine OGo.st (fun _ kz => XS.iloadN X2.here hx rfl (hb hby d10_11) rfl kz) ?_
  show OG p e below Φ T2 m 12 #[rv s_, iv 1] [(.int 1), (.ref b)]
  obtain ⟨_, T3, L3, X3, hQ3, st3⟩ := own_callSt X2 hx hZ hown (ow54 hw) (ow55 hw) (ow56 hw) (ow57 hw) (by decide) (rgl8_1 l Z a0 hw [] b cb vf c0_ c1_ c2_ c3_ c4_ c5_ c6_ c7_ h0 n0 Z0 V_b S_f rvf) e2 (W := 0) (by decide) (by decide) (by decide) (by decide) (pc := 12) (ls := #[rv s_, iv 1]) (stk := [(.int 1), (.ref b)]) (by rw [hml]; rfl) (argsL := [(.ref b), (.int 1)]) (rest := []) (lenOf pd9 rfl) rfl rfl (Nat.le_of_eq rfl) (hb hby d10_12)
  obtain ⟨rfl, Nq3, e3⟩ := hQ3
  have N3 := Fr.app N1 Nq3
  refine OGo.st st3 ?_
  show OG p e below Φ T3 m 15 #[rv s_, iv 1] [(.int ((c1_ &&& (255 : Int32)).toUInt32.toUInt16.toUInt32.toInt32))]
  refine OGo.fin X3 hlk (v := (some (.int ((c1_ &&& (255 : Int32)).toUInt32.toUInt16.toUInt32.toInt32)))) (fun h => by rw [hret] at h; cases h) (by decide) (by decide) (fun fs hr => X3.ireturnOut hx hret (XT.narrow_c _) (by simp) (hb hby d10_15) hr) fun U eU hF => hΦ _ _ _ ?_ hF
  rw [eU, e3]
  show Q_rgh8_1 Z s_ b cb qc vf c0_ c1_ c2_ c3_ c4_ c5_ c6_ c7_ h0 n0 _ _ _
  exact ⟨rfl, N3, rfl⟩

theorem ef_rgl8_2 (m : MethodId) (x0 : Addr) (x1 : Int32) : entryFrame m #[(.ref x0), (.int x1)] 2 = mkF m 0 #[.val (.ref x0), .val (.int x1)] [] := by first | (simp [entryFrame, mkF, argsToLocals, Value.category]; done) | rfl
def Q_rgl8_2 (Z : State) (b : Addr) (cb : ClassId) (vf : Value) (c0_ : Int32) (c1_ : Int32) (c2_ : Int32) (c3_ : Int32) (c4_ : Int32) (c5_ : Int32) (c6_ : Int32) (c7_ : Int32) (h0 : Heap) (n0 : Nat) (v : Option Value) (h : Heap) (L : List Loc) : Prop := v = some (.int ((c2_ &&& (255 : Int32)).toUInt32.toUInt16.toUInt32.toInt32)) ∧ Fr n0 L ∧ h = h0
set_option maxRecDepth 65536 in
set_option maxHeartbeats 40000000 in
theorem rgl8_2 (l : Launch) (Z : State) (a0 : Array Value) (hw : ∀ d ∈ tables_1, d.before a0 Z = true) (ws : List Jvm.Cond) (b : Addr) (cb : ClassId) (vf : Value) (c0_ : Int32) (c1_ : Int32) (c2_ : Int32) (c3_ : Int32) (c4_ : Int32) (c5_ : Int32) (c6_ : Int32) (c7_ : Int32) (h0 : Heap) (n0 : Nat) (Z0 : n0 ≤ h0.size) (V_b : Arv Z h0 b cb .byte (8 : Int32) [(.int c0_), (.int c1_), (.int c2_), (.int c3_), (.int c4_), (.int c5_), (.int c6_), (.int c7_)] (.int (0 : Int32))) (S_f : Sta Z h0 "jdk/internal/util/Preconditions" "SIOOBE_FORMATTER" "Ljava/util/function/BiFunction;" vf) (rvf : vf.isRef = true) :
    OCon l Z (⟨"java/lang/StringLatin1", "charAt", "([BI)C"⟩ : MethodName) jdk_43_method_2_code 2 (some .char) ws ({ frames := 2, cells := 0, slots := 0, locals := 27 } : Room) #[(.ref b), (.int (2 : Int32))] h0 (Q_rgl8_2 Z b cb vf c0_ c1_ c2_ c3_ c4_ c5_ c6_ c7_ h0 n0) := by
  refine OCon.of (plainFor_of_name pn5) ?_
  intro p e s m below meth c s₁ Φ X0 hx hby hml hown hnm hret hlk hZ e0 hΦ
  have N0 := Fr.nil n0
  refine OGo.st (fun _ kz => castTop (ef_rgl8_2 m b (2 : Int32)) kz) ?_
  show OG p e below Φ s₁ m 0 #[rv b, iv 2] []
  refine OGo.st (fun _ kz => XS.iloadN X0.here hx rfl (hb hby d12_0) rfl kz) ?_
  show OG p e below Φ s₁ m 1 #[rv b, iv 2] [(.int 2)]
  refine OGo.st (fun _ kz => XS.aloadN X0.here hx rfl (hb hby d12_1) rfl rfl kz) ?_
  show OG p e below Φ s₁ m 2 #[rv b, iv 2] [(.ref b), (.int 2)]
  obtain ⟨cl1, Aq1, -, S1, M1, -, -⟩ := id V_b
  refine OGo.st (fun _ kz => X0.arraylength hx (by rw [e0]; exact Aq1.1) (State.isArrayOf_alike hZ.alike Aq1.2.1) (g := (mkF m 2 #[rv b, iv 2] [(.ref b), (.int 2)])) rfl rfl (hb hby d12_2) _ kz) ?_
  rw [len_of S1 M1]
  show OG p e below Φ s₁ m 3 #[rv b, iv 2] [(.int 8), (.int 2)]
  obtain ⟨_, T2, L2, X2, hQ2, st2⟩ := own_callSt X0 hx hZ hown (ow58 hw) (ow59 hw) (ow8 hw) (ow60 hw) (by decide) (rgci l Z a0 hw [] (2 : Int32) (8 : Int32) vf h0 n0 Z0 (by decide) (by decide) S_f rvf) e0 (W := 0) (by decide) (by decide) (by decide) (by decide) (pc := 3) (ls := #[rv b, iv 2]) (stk := [(.int 8), (.int 2)]) (by rw [hml]; rfl) (argsL := [(.int 2), (.int 8)]) (rest := []) (lenOf pd7 rfl) rfl rfl (Nat.le_of_eq rfl) (hb hby d12_3)
  obtain ⟨rfl, Nq2, e2⟩ := hQ2
  have N2 := Fr.app N0 Nq2
  refine OGo.st st2 ?_
  show OG p e below Φ T2 m 6 #[rv b, iv 2] []
  refine OGo.st (fun _ kz => XS.aloadN X2.here hx rfl (hb hby d12_6) rfl rfl kz) ?_
  show OG p e below Φ T2 m 7 #[rv b, iv 2] [(.ref b)]
  refine OGo.st (fun _ kz => XS.iloadN X2.here hx rfl (hb hby d12_7) rfl kz) ?_
  show OG p e below Φ T2 m 8 #[rv b, iv 2] [(.int 2), (.ref b)]
  obtain ⟨cl3, Aq3, -, S3, M3, H3, -⟩ := id V_b
  have in3 : ¬ ((2 : Int32) < 0 ∨ cl3.slots.size ≤ (2 : Int32).toNatClampNeg) := inb_of S3 ⟨by decide, by decide⟩
  have at3 : cl3.slots[(2 : Int32).toNatClampNeg]? = some (.int c2_) := H3.at in3 rfl
  refine OGo.st (fun _ kz => X2.baloadBytes hx (by rw [e2]; exact Aq3.1) (State.isArrayOf_alike hZ.alike Aq3.2.1) Aq3.2.2 in3 at3 (g := (mkF m 8 #[rv b, iv 2] [(.int 2), (.ref b)])) rfl rfl (hb hby d12_8) _ kz) ?_
  show OG p e below Φ T2 m 9 #[rv b, iv 2] [(.int c2_)]
  refine OGo.st (fun _ kz => XS.sipush X2.here hx rfl (hb hby d12_9) kz) ?_
  show OG p e below Φ T2 m 12 #[rv b, iv 2] [(.int 255), (.int c2_)]
  refine OGo.st (fun _ kz => XS.iand X2.here hx rfl (hb hby d12_12) rfl kz) ?_
  show OG p e below Φ T2 m 13 #[rv b, iv 2] [(.int (c2_ &&& (255 : Int32)))]
  refine OGo.st (fun _ kz => XT.i2c X2.here hx rfl (hb hby d12_13) rfl kz) ?_
  show OG p e below Φ T2 m 14 #[rv b, iv 2] [(.int ((c2_ &&& (255 : Int32)).toUInt32.toUInt16.toUInt32.toInt32))]
  refine OGo.fin X2 hlk (v := (some (.int ((c2_ &&& (255 : Int32)).toUInt32.toUInt16.toUInt32.toInt32)))) (fun h => by rw [hret] at h; cases h) (by decide) (by decide) (fun fs hr => X2.ireturnOut hx hret (XT.narrow_c _) (by simp) (hb hby d12_14) hr) fun U eU hF => hΦ _ _ _ ?_ hF
  rw [eU, e2]
  show Q_rgl8_2 Z b cb vf c0_ c1_ c2_ c3_ c4_ c5_ c6_ c7_ h0 n0 _ _ _
  exact ⟨rfl, N2, rfl⟩

theorem ef_rgh8_2 (m : MethodId) (x0 : Addr) (x1 : Int32) : entryFrame m #[(.ref x0), (.int x1)] 2 = mkF m 0 #[.val (.ref x0), .val (.int x1)] [] := by first | (simp [entryFrame, mkF, argsToLocals, Value.category]; done) | rfl
def Q_rgh8_2 (Z : State) (s_ : Addr) (b : Addr) (cb : ClassId) (qc : Int32) (vf : Value) (c0_ : Int32) (c1_ : Int32) (c2_ : Int32) (c3_ : Int32) (c4_ : Int32) (c5_ : Int32) (c6_ : Int32) (c7_ : Int32) (h0 : Heap) (n0 : Nat) (v : Option Value) (h : Heap) (L : List Loc) : Prop := v = some (.int ((c2_ &&& (255 : Int32)).toUInt32.toUInt16.toUInt32.toInt32)) ∧ Fr n0 L ∧ h = h0
set_option maxRecDepth 65536 in
set_option maxHeartbeats 40000000 in
theorem rgh8_2 (l : Launch) (Z : State) (a0 : Array Value) (hw : ∀ d ∈ tables_1, d.before a0 Z = true) (ws : List Jvm.Cond) (s_ : Addr) (b : Addr) (cb : ClassId) (qc : Int32) (vf : Value) (c0_ : Int32) (c1_ : Int32) (c2_ : Int32) (c3_ : Int32) (c4_ : Int32) (c5_ : Int32) (c6_ : Int32) (c7_ : Int32) (h0 : Heap) (n0 : Nat) (Z0 : n0 ≤ h0.size) (E_s : Exa Z h0 s_ "java/lang/String") (F_v : Fld Z h0 s_ "java/lang/String" "value" "[B" (.ref b)) (F_c : Fld Z h0 s_ "java/lang/String" "coder" "B" (.int (0 : Int32))) (V_b : Arv Z h0 b cb .byte (8 : Int32) [(.int c0_), (.int c1_), (.int c2_), (.int c3_), (.int c4_), (.int c5_), (.int c6_), (.int c7_)] (.int (0 : Int32))) (S_q : Sta Z h0 "java/lang/String" "COMPACT_STRINGS" "Z" (.int qc)) (hq : ¬ qc = 0) (S_f : Sta Z h0 "jdk/internal/util/Preconditions" "SIOOBE_FORMATTER" "Ljava/util/function/BiFunction;" vf) (rvf : vf.isRef = true) :
    OCon l Z (⟨"java/lang/String", "charAt", "(I)C"⟩ : MethodName) jdk_42_method_56_code 2 (some .char) ws ({ frames := 3, cells := 0, slots := 0, locals := 40 } : Room) #[(.ref s_), (.int (2 : Int32))] h0 (Q_rgh8_2 Z s_ b cb qc vf c0_ c1_ c2_ c3_ c4_ c5_ c6_ c7_ h0 n0) := by
  refine OCon.of (plainFor_of_name pn0) ?_
  intro p e s m below meth c s₁ Φ X0 hx hby hml hown hnm hret hlk hZ e0 hΦ
  have N0 := Fr.nil n0
  refine OGo.st (fun _ kz => castTop (ef_rgh8_2 m s_ (2 : Int32)) kz) ?_
  show OG p e below Φ s₁ m 0 #[rv s_, iv 2] []
  refine OGo.st (fun _ kz => XS.aloadN X0.here hx rfl (hb hby d10_0) rfl rfl kz) ?_
  show OG p e below Φ s₁ m 1 #[rv s_, iv 2] [(.ref s_)]
  obtain ⟨_, T1, L1, X1, hQ1, st1⟩ := own_callVi X0 hx hZ hown (ow49 hw) (ow50 hw) (notFace_of_selects (args := #[]) (mvT hZ (ow52 hw))) (ow52 hw) (ow51 hw) (ow8 hw) (ow53 hw) (by decide) (rgis l Z a0 hw [] s_ qc h0 n0 Z0 F_c S_q hq) e0 (W := 0) (by decide) (by decide) (by decide) (by decide) E_s (pc := 1) (ls := #[rv s_, iv 2]) (stk := [(.ref s_)]) (by rw [hml]; rfl) (argsL := []) (rest := []) (lenOf pd8 rfl) rfl rfl (Nat.le_of_eq rfl) (hb hby d10_1)
  obtain ⟨rfl, Nq1, e1⟩ := hQ1
  have N1 := Fr.app N0 Nq1
  refine OGo.st st1 ?_
  show OG p e below Φ T1 m 4 #[rv s_, iv 2] [(.int 1)]
  refine OGo.st (fun _ kz => XS.ifNo X1.here hx rfl (hb hby d10_4) rfl (XT.i0_eq_f (by decide)) kz) ?_
  show OG p e below Φ T1 m 7 #[rv s_, iv 2] []
  refine OGo.st (fun _ kz => XS.aloadN X1.here hx rfl (hb hby d10_7) rfl rfl kz) ?_
  show OG p e below Φ T1 m 8 #[rv s_, iv 2] [(.ref s_)]
  obtain ⟨T2, X2, e2, st2⟩ := getF X1 hx hZ hown (host := "") (Or.inl (ow32 hw)) Via.refl e1 F_v (g := (mkF m 8 #[rv s_, iv 2] [(.ref s_)])) rfl rfl (hb hby d10_8)
  refine OGo.st st2 ?_
  show OG p e below Φ T2 m 11 #[rv s_, iv 2] [(.ref b)]
  refine OGo.st (fun _ kz => XS.iloadN X2.here hx rfl (hb hby d10_11) rfl kz) ?_
  show OG p e below Φ T2 m 12 #[rv s_, iv 2] [(.int 2), (.ref b)]
  obtain ⟨_, T3, L3, X3, hQ3, st3⟩ := own_callSt X2 hx hZ hown (ow54 hw) (ow55 hw) (ow56 hw) (ow57 hw) (by decide) (rgl8_2 l Z a0 hw [] b cb vf c0_ c1_ c2_ c3_ c4_ c5_ c6_ c7_ h0 n0 Z0 V_b S_f rvf) e2 (W := 0) (by decide) (by decide) (by decide) (by decide) (pc := 12) (ls := #[rv s_, iv 2]) (stk := [(.int 2), (.ref b)]) (by rw [hml]; rfl) (argsL := [(.ref b), (.int 2)]) (rest := []) (lenOf pd9 rfl) rfl rfl (Nat.le_of_eq rfl) (hb hby d10_12)
  obtain ⟨rfl, Nq3, e3⟩ := hQ3
  have N3 := Fr.app N1 Nq3
  refine OGo.st st3 ?_
  show OG p e below Φ T3 m 15 #[rv s_, iv 2] [(.int ((c2_ &&& (255 : Int32)).toUInt32.toUInt16.toUInt32.toInt32))]
  refine OGo.fin X3 hlk (v := (some (.int ((c2_ &&& (255 : Int32)).toUInt32.toUInt16.toUInt32.toInt32)))) (fun h => by rw [hret] at h; cases h) (by decide) (by decide) (fun fs hr => X3.ireturnOut hx hret (XT.narrow_c _) (by simp) (hb hby d10_15) hr) fun U eU hF => hΦ _ _ _ ?_ hF
  rw [eU, e3]
  show Q_rgh8_2 Z s_ b cb qc vf c0_ c1_ c2_ c3_ c4_ c5_ c6_ c7_ h0 n0 _ _ _
  exact ⟨rfl, N3, rfl⟩

theorem ef_rgl8_3 (m : MethodId) (x0 : Addr) (x1 : Int32) : entryFrame m #[(.ref x0), (.int x1)] 2 = mkF m 0 #[.val (.ref x0), .val (.int x1)] [] := by first | (simp [entryFrame, mkF, argsToLocals, Value.category]; done) | rfl
def Q_rgl8_3 (Z : State) (b : Addr) (cb : ClassId) (vf : Value) (c0_ : Int32) (c1_ : Int32) (c2_ : Int32) (c3_ : Int32) (c4_ : Int32) (c5_ : Int32) (c6_ : Int32) (c7_ : Int32) (h0 : Heap) (n0 : Nat) (v : Option Value) (h : Heap) (L : List Loc) : Prop := v = some (.int ((c3_ &&& (255 : Int32)).toUInt32.toUInt16.toUInt32.toInt32)) ∧ Fr n0 L ∧ h = h0
set_option maxRecDepth 65536 in
set_option maxHeartbeats 40000000 in
theorem rgl8_3 (l : Launch) (Z : State) (a0 : Array Value) (hw : ∀ d ∈ tables_1, d.before a0 Z = true) (ws : List Jvm.Cond) (b : Addr) (cb : ClassId) (vf : Value) (c0_ : Int32) (c1_ : Int32) (c2_ : Int32) (c3_ : Int32) (c4_ : Int32) (c5_ : Int32) (c6_ : Int32) (c7_ : Int32) (h0 : Heap) (n0 : Nat) (Z0 : n0 ≤ h0.size) (V_b : Arv Z h0 b cb .byte (8 : Int32) [(.int c0_), (.int c1_), (.int c2_), (.int c3_), (.int c4_), (.int c5_), (.int c6_), (.int c7_)] (.int (0 : Int32))) (S_f : Sta Z h0 "jdk/internal/util/Preconditions" "SIOOBE_FORMATTER" "Ljava/util/function/BiFunction;" vf) (rvf : vf.isRef = true) :
    OCon l Z (⟨"java/lang/StringLatin1", "charAt", "([BI)C"⟩ : MethodName) jdk_43_method_2_code 2 (some .char) ws ({ frames := 2, cells := 0, slots := 0, locals := 27 } : Room) #[(.ref b), (.int (3 : Int32))] h0 (Q_rgl8_3 Z b cb vf c0_ c1_ c2_ c3_ c4_ c5_ c6_ c7_ h0 n0) := by
  refine OCon.of (plainFor_of_name pn5) ?_
  intro p e s m below meth c s₁ Φ X0 hx hby hml hown hnm hret hlk hZ e0 hΦ
  have N0 := Fr.nil n0
  refine OGo.st (fun _ kz => castTop (ef_rgl8_3 m b (3 : Int32)) kz) ?_
  show OG p e below Φ s₁ m 0 #[rv b, iv 3] []
  refine OGo.st (fun _ kz => XS.iloadN X0.here hx rfl (hb hby d12_0) rfl kz) ?_
  show OG p e below Φ s₁ m 1 #[rv b, iv 3] [(.int 3)]
  refine OGo.st (fun _ kz => XS.aloadN X0.here hx rfl (hb hby d12_1) rfl rfl kz) ?_
  show OG p e below Φ s₁ m 2 #[rv b, iv 3] [(.ref b), (.int 3)]
  obtain ⟨cl1, Aq1, -, S1, M1, -, -⟩ := id V_b
  refine OGo.st (fun _ kz => X0.arraylength hx (by rw [e0]; exact Aq1.1) (State.isArrayOf_alike hZ.alike Aq1.2.1) (g := (mkF m 2 #[rv b, iv 3] [(.ref b), (.int 3)])) rfl rfl (hb hby d12_2) _ kz) ?_
  rw [len_of S1 M1]
  show OG p e below Φ s₁ m 3 #[rv b, iv 3] [(.int 8), (.int 3)]
  obtain ⟨_, T2, L2, X2, hQ2, st2⟩ := own_callSt X0 hx hZ hown (ow58 hw) (ow59 hw) (ow8 hw) (ow60 hw) (by decide) (rgci l Z a0 hw [] (3 : Int32) (8 : Int32) vf h0 n0 Z0 (by decide) (by decide) S_f rvf) e0 (W := 0) (by decide) (by decide) (by decide) (by decide) (pc := 3) (ls := #[rv b, iv 3]) (stk := [(.int 8), (.int 3)]) (by rw [hml]; rfl) (argsL := [(.int 3), (.int 8)]) (rest := []) (lenOf pd7 rfl) rfl rfl (Nat.le_of_eq rfl) (hb hby d12_3)
  obtain ⟨rfl, Nq2, e2⟩ := hQ2
  have N2 := Fr.app N0 Nq2
  refine OGo.st st2 ?_
  show OG p e below Φ T2 m 6 #[rv b, iv 3] []
  refine OGo.st (fun _ kz => XS.aloadN X2.here hx rfl (hb hby d12_6) rfl rfl kz) ?_
  show OG p e below Φ T2 m 7 #[rv b, iv 3] [(.ref b)]
  refine OGo.st (fun _ kz => XS.iloadN X2.here hx rfl (hb hby d12_7) rfl kz) ?_
  show OG p e below Φ T2 m 8 #[rv b, iv 3] [(.int 3), (.ref b)]
  obtain ⟨cl3, Aq3, -, S3, M3, H3, -⟩ := id V_b
  have in3 : ¬ ((3 : Int32) < 0 ∨ cl3.slots.size ≤ (3 : Int32).toNatClampNeg) := inb_of S3 ⟨by decide, by decide⟩
  have at3 : cl3.slots[(3 : Int32).toNatClampNeg]? = some (.int c3_) := H3.at in3 rfl
  refine OGo.st (fun _ kz => X2.baloadBytes hx (by rw [e2]; exact Aq3.1) (State.isArrayOf_alike hZ.alike Aq3.2.1) Aq3.2.2 in3 at3 (g := (mkF m 8 #[rv b, iv 3] [(.int 3), (.ref b)])) rfl rfl (hb hby d12_8) _ kz) ?_
  show OG p e below Φ T2 m 9 #[rv b, iv 3] [(.int c3_)]
  refine OGo.st (fun _ kz => XS.sipush X2.here hx rfl (hb hby d12_9) kz) ?_
  show OG p e below Φ T2 m 12 #[rv b, iv 3] [(.int 255), (.int c3_)]
  refine OGo.st (fun _ kz => XS.iand X2.here hx rfl (hb hby d12_12) rfl kz) ?_
  show OG p e below Φ T2 m 13 #[rv b, iv 3] [(.int (c3_ &&& (255 : Int32)))]
  refine OGo.st (fun _ kz => XT.i2c X2.here hx rfl (hb hby d12_13) rfl kz) ?_
  show OG p e below Φ T2 m 14 #[rv b, iv 3] [(.int ((c3_ &&& (255 : Int32)).toUInt32.toUInt16.toUInt32.toInt32))]
  refine OGo.fin X2 hlk (v := (some (.int ((c3_ &&& (255 : Int32)).toUInt32.toUInt16.toUInt32.toInt32)))) (fun h => by rw [hret] at h; cases h) (by decide) (by decide) (fun fs hr => X2.ireturnOut hx hret (XT.narrow_c _) (by simp) (hb hby d12_14) hr) fun U eU hF => hΦ _ _ _ ?_ hF
  rw [eU, e2]
  show Q_rgl8_3 Z b cb vf c0_ c1_ c2_ c3_ c4_ c5_ c6_ c7_ h0 n0 _ _ _
  exact ⟨rfl, N2, rfl⟩

theorem ef_rgh8_3 (m : MethodId) (x0 : Addr) (x1 : Int32) : entryFrame m #[(.ref x0), (.int x1)] 2 = mkF m 0 #[.val (.ref x0), .val (.int x1)] [] := by first | (simp [entryFrame, mkF, argsToLocals, Value.category]; done) | rfl
def Q_rgh8_3 (Z : State) (s_ : Addr) (b : Addr) (cb : ClassId) (qc : Int32) (vf : Value) (c0_ : Int32) (c1_ : Int32) (c2_ : Int32) (c3_ : Int32) (c4_ : Int32) (c5_ : Int32) (c6_ : Int32) (c7_ : Int32) (h0 : Heap) (n0 : Nat) (v : Option Value) (h : Heap) (L : List Loc) : Prop := v = some (.int ((c3_ &&& (255 : Int32)).toUInt32.toUInt16.toUInt32.toInt32)) ∧ Fr n0 L ∧ h = h0
set_option maxRecDepth 65536 in
set_option maxHeartbeats 40000000 in
theorem rgh8_3 (l : Launch) (Z : State) (a0 : Array Value) (hw : ∀ d ∈ tables_1, d.before a0 Z = true) (ws : List Jvm.Cond) (s_ : Addr) (b : Addr) (cb : ClassId) (qc : Int32) (vf : Value) (c0_ : Int32) (c1_ : Int32) (c2_ : Int32) (c3_ : Int32) (c4_ : Int32) (c5_ : Int32) (c6_ : Int32) (c7_ : Int32) (h0 : Heap) (n0 : Nat) (Z0 : n0 ≤ h0.size) (E_s : Exa Z h0 s_ "java/lang/String") (F_v : Fld Z h0 s_ "java/lang/String" "value" "[B" (.ref b)) (F_c : Fld Z h0 s_ "java/lang/String" "coder" "B" (.int (0 : Int32))) (V_b : Arv Z h0 b cb .byte (8 : Int32) [(.int c0_), (.int c1_), (.int c2_), (.int c3_), (.int c4_), (.int c5_), (.int c6_), (.int c7_)] (.int (0 : Int32))) (S_q : Sta Z h0 "java/lang/String" "COMPACT_STRINGS" "Z" (.int qc)) (hq : ¬ qc = 0) (S_f : Sta Z h0 "jdk/internal/util/Preconditions" "SIOOBE_FORMATTER" "Ljava/util/function/BiFunction;" vf) (rvf : vf.isRef = true) :
    OCon l Z (⟨"java/lang/String", "charAt", "(I)C"⟩ : MethodName) jdk_42_method_56_code 2 (some .char) ws ({ frames := 3, cells := 0, slots := 0, locals := 40 } : Room) #[(.ref s_), (.int (3 : Int32))] h0 (Q_rgh8_3 Z s_ b cb qc vf c0_ c1_ c2_ c3_ c4_ c5_ c6_ c7_ h0 n0) := by
  refine OCon.of (plainFor_of_name pn0) ?_
  intro p e s m below meth c s₁ Φ X0 hx hby hml hown hnm hret hlk hZ e0 hΦ
  have N0 := Fr.nil n0
  refine OGo.st (fun _ kz => castTop (ef_rgh8_3 m s_ (3 : Int32)) kz) ?_
  show OG p e below Φ s₁ m 0 #[rv s_, iv 3] []
  refine OGo.st (fun _ kz => XS.aloadN X0.here hx rfl (hb hby d10_0) rfl rfl kz) ?_
  show OG p e below Φ s₁ m 1 #[rv s_, iv 3] [(.ref s_)]
  obtain ⟨_, T1, L1, X1, hQ1, st1⟩ := own_callVi X0 hx hZ hown (ow49 hw) (ow50 hw) (notFace_of_selects (args := #[]) (mvT hZ (ow52 hw))) (ow52 hw) (ow51 hw) (ow8 hw) (ow53 hw) (by decide) (rgis l Z a0 hw [] s_ qc h0 n0 Z0 F_c S_q hq) e0 (W := 0) (by decide) (by decide) (by decide) (by decide) E_s (pc := 1) (ls := #[rv s_, iv 3]) (stk := [(.ref s_)]) (by rw [hml]; rfl) (argsL := []) (rest := []) (lenOf pd8 rfl) rfl rfl (Nat.le_of_eq rfl) (hb hby d10_1)
  obtain ⟨rfl, Nq1, e1⟩ := hQ1
  have N1 := Fr.app N0 Nq1
  refine OGo.st st1 ?_
  show OG p e below Φ T1 m 4 #[rv s_, iv 3] [(.int 1)]
  refine OGo.st (fun _ kz => XS.ifNo X1.here hx rfl (hb hby d10_4) rfl (XT.i0_eq_f (by decide)) kz) ?_
  show OG p e below Φ T1 m 7 #[rv s_, iv 3] []
  refine OGo.st (fun _ kz => XS.aloadN X1.here hx rfl (hb hby d10_7) rfl rfl kz) ?_
  show OG p e below Φ T1 m 8 #[rv s_, iv 3] [(.ref s_)]
  obtain ⟨T2, X2, e2, st2⟩ := getF X1 hx hZ hown (host := "") (Or.inl (ow32 hw)) Via.refl e1 F_v (g := (mkF m 8 #[rv s_, iv 3] [(.ref s_)])) rfl rfl (hb hby d10_8)
  refine OGo.st st2 ?_
  show OG p e below Φ T2 m 11 #[rv s_, iv 3] [(.ref b)]
  refine OGo.st (fun _ kz => XS.iloadN X2.here hx rfl (hb hby d10_11) rfl kz) ?_
  show OG p e below Φ T2 m 12 #[rv s_, iv 3] [(.int 3), (.ref b)]
  obtain ⟨_, T3, L3, X3, hQ3, st3⟩ := own_callSt X2 hx hZ hown (ow54 hw) (ow55 hw) (ow56 hw) (ow57 hw) (by decide) (rgl8_3 l Z a0 hw [] b cb vf c0_ c1_ c2_ c3_ c4_ c5_ c6_ c7_ h0 n0 Z0 V_b S_f rvf) e2 (W := 0) (by decide) (by decide) (by decide) (by decide) (pc := 12) (ls := #[rv s_, iv 3]) (stk := [(.int 3), (.ref b)]) (by rw [hml]; rfl) (argsL := [(.ref b), (.int 3)]) (rest := []) (lenOf pd9 rfl) rfl rfl (Nat.le_of_eq rfl) (hb hby d10_12)
  obtain ⟨rfl, Nq3, e3⟩ := hQ3
  have N3 := Fr.app N1 Nq3
  refine OGo.st st3 ?_
  show OG p e below Φ T3 m 15 #[rv s_, iv 3] [(.int ((c3_ &&& (255 : Int32)).toUInt32.toUInt16.toUInt32.toInt32))]
  refine OGo.fin X3 hlk (v := (some (.int ((c3_ &&& (255 : Int32)).toUInt32.toUInt16.toUInt32.toInt32)))) (fun h => by rw [hret] at h; cases h) (by decide) (by decide) (fun fs hr => X3.ireturnOut hx hret (XT.narrow_c _) (by simp) (hb hby d10_15) hr) fun U eU hF => hΦ _ _ _ ?_ hF
  rw [eU, e3]
  show Q_rgh8_3 Z s_ b cb qc vf c0_ c1_ c2_ c3_ c4_ c5_ c6_ c7_ h0 n0 _ _ _
  exact ⟨rfl, N3, rfl⟩

theorem ef_rgl8_4 (m : MethodId) (x0 : Addr) (x1 : Int32) : entryFrame m #[(.ref x0), (.int x1)] 2 = mkF m 0 #[.val (.ref x0), .val (.int x1)] [] := by first | (simp [entryFrame, mkF, argsToLocals, Value.category]; done) | rfl
def Q_rgl8_4 (Z : State) (b : Addr) (cb : ClassId) (vf : Value) (c0_ : Int32) (c1_ : Int32) (c2_ : Int32) (c3_ : Int32) (c4_ : Int32) (c5_ : Int32) (c6_ : Int32) (c7_ : Int32) (h0 : Heap) (n0 : Nat) (v : Option Value) (h : Heap) (L : List Loc) : Prop := v = some (.int ((c4_ &&& (255 : Int32)).toUInt32.toUInt16.toUInt32.toInt32)) ∧ Fr n0 L ∧ h = h0
set_option maxRecDepth 65536 in
set_option maxHeartbeats 40000000 in
theorem rgl8_4 (l : Launch) (Z : State) (a0 : Array Value) (hw : ∀ d ∈ tables_1, d.before a0 Z = true) (ws : List Jvm.Cond) (b : Addr) (cb : ClassId) (vf : Value) (c0_ : Int32) (c1_ : Int32) (c2_ : Int32) (c3_ : Int32) (c4_ : Int32) (c5_ : Int32) (c6_ : Int32) (c7_ : Int32) (h0 : Heap) (n0 : Nat) (Z0 : n0 ≤ h0.size) (V_b : Arv Z h0 b cb .byte (8 : Int32) [(.int c0_), (.int c1_), (.int c2_), (.int c3_), (.int c4_), (.int c5_), (.int c6_), (.int c7_)] (.int (0 : Int32))) (S_f : Sta Z h0 "jdk/internal/util/Preconditions" "SIOOBE_FORMATTER" "Ljava/util/function/BiFunction;" vf) (rvf : vf.isRef = true) :
    OCon l Z (⟨"java/lang/StringLatin1", "charAt", "([BI)C"⟩ : MethodName) jdk_43_method_2_code 2 (some .char) ws ({ frames := 2, cells := 0, slots := 0, locals := 27 } : Room) #[(.ref b), (.int (4 : Int32))] h0 (Q_rgl8_4 Z b cb vf c0_ c1_ c2_ c3_ c4_ c5_ c6_ c7_ h0 n0) := by
  refine OCon.of (plainFor_of_name pn5) ?_
  intro p e s m below meth c s₁ Φ X0 hx hby hml hown hnm hret hlk hZ e0 hΦ
  have N0 := Fr.nil n0
  refine OGo.st (fun _ kz => castTop (ef_rgl8_4 m b (4 : Int32)) kz) ?_
  show OG p e below Φ s₁ m 0 #[rv b, iv 4] []
  refine OGo.st (fun _ kz => XS.iloadN X0.here hx rfl (hb hby d12_0) rfl kz) ?_
  show OG p e below Φ s₁ m 1 #[rv b, iv 4] [(.int 4)]
  refine OGo.st (fun _ kz => XS.aloadN X0.here hx rfl (hb hby d12_1) rfl rfl kz) ?_
  show OG p e below Φ s₁ m 2 #[rv b, iv 4] [(.ref b), (.int 4)]
  obtain ⟨cl1, Aq1, -, S1, M1, -, -⟩ := id V_b
  refine OGo.st (fun _ kz => X0.arraylength hx (by rw [e0]; exact Aq1.1) (State.isArrayOf_alike hZ.alike Aq1.2.1) (g := (mkF m 2 #[rv b, iv 4] [(.ref b), (.int 4)])) rfl rfl (hb hby d12_2) _ kz) ?_
  rw [len_of S1 M1]
  show OG p e below Φ s₁ m 3 #[rv b, iv 4] [(.int 8), (.int 4)]
  obtain ⟨_, T2, L2, X2, hQ2, st2⟩ := own_callSt X0 hx hZ hown (ow58 hw) (ow59 hw) (ow8 hw) (ow60 hw) (by decide) (rgci l Z a0 hw [] (4 : Int32) (8 : Int32) vf h0 n0 Z0 (by decide) (by decide) S_f rvf) e0 (W := 0) (by decide) (by decide) (by decide) (by decide) (pc := 3) (ls := #[rv b, iv 4]) (stk := [(.int 8), (.int 4)]) (by rw [hml]; rfl) (argsL := [(.int 4), (.int 8)]) (rest := []) (lenOf pd7 rfl) rfl rfl (Nat.le_of_eq rfl) (hb hby d12_3)
  obtain ⟨rfl, Nq2, e2⟩ := hQ2
  have N2 := Fr.app N0 Nq2
  refine OGo.st st2 ?_
  show OG p e below Φ T2 m 6 #[rv b, iv 4] []
  refine OGo.st (fun _ kz => XS.aloadN X2.here hx rfl (hb hby d12_6) rfl rfl kz) ?_
  show OG p e below Φ T2 m 7 #[rv b, iv 4] [(.ref b)]
  refine OGo.st (fun _ kz => XS.iloadN X2.here hx rfl (hb hby d12_7) rfl kz) ?_
  show OG p e below Φ T2 m 8 #[rv b, iv 4] [(.int 4), (.ref b)]
  obtain ⟨cl3, Aq3, -, S3, M3, H3, -⟩ := id V_b
  have in3 : ¬ ((4 : Int32) < 0 ∨ cl3.slots.size ≤ (4 : Int32).toNatClampNeg) := inb_of S3 ⟨by decide, by decide⟩
  have at3 : cl3.slots[(4 : Int32).toNatClampNeg]? = some (.int c4_) := H3.at in3 rfl
  refine OGo.st (fun _ kz => X2.baloadBytes hx (by rw [e2]; exact Aq3.1) (State.isArrayOf_alike hZ.alike Aq3.2.1) Aq3.2.2 in3 at3 (g := (mkF m 8 #[rv b, iv 4] [(.int 4), (.ref b)])) rfl rfl (hb hby d12_8) _ kz) ?_
  show OG p e below Φ T2 m 9 #[rv b, iv 4] [(.int c4_)]
  refine OGo.st (fun _ kz => XS.sipush X2.here hx rfl (hb hby d12_9) kz) ?_
  show OG p e below Φ T2 m 12 #[rv b, iv 4] [(.int 255), (.int c4_)]
  refine OGo.st (fun _ kz => XS.iand X2.here hx rfl (hb hby d12_12) rfl kz) ?_
  show OG p e below Φ T2 m 13 #[rv b, iv 4] [(.int (c4_ &&& (255 : Int32)))]
  refine OGo.st (fun _ kz => XT.i2c X2.here hx rfl (hb hby d12_13) rfl kz) ?_
  show OG p e below Φ T2 m 14 #[rv b, iv 4] [(.int ((c4_ &&& (255 : Int32)).toUInt32.toUInt16.toUInt32.toInt32))]
  refine OGo.fin X2 hlk (v := (some (.int ((c4_ &&& (255 : Int32)).toUInt32.toUInt16.toUInt32.toInt32)))) (fun h => by rw [hret] at h; cases h) (by decide) (by decide) (fun fs hr => X2.ireturnOut hx hret (XT.narrow_c _) (by simp) (hb hby d12_14) hr) fun U eU hF => hΦ _ _ _ ?_ hF
  rw [eU, e2]
  show Q_rgl8_4 Z b cb vf c0_ c1_ c2_ c3_ c4_ c5_ c6_ c7_ h0 n0 _ _ _
  exact ⟨rfl, N2, rfl⟩

theorem ef_rgh8_4 (m : MethodId) (x0 : Addr) (x1 : Int32) : entryFrame m #[(.ref x0), (.int x1)] 2 = mkF m 0 #[.val (.ref x0), .val (.int x1)] [] := by first | (simp [entryFrame, mkF, argsToLocals, Value.category]; done) | rfl
def Q_rgh8_4 (Z : State) (s_ : Addr) (b : Addr) (cb : ClassId) (qc : Int32) (vf : Value) (c0_ : Int32) (c1_ : Int32) (c2_ : Int32) (c3_ : Int32) (c4_ : Int32) (c5_ : Int32) (c6_ : Int32) (c7_ : Int32) (h0 : Heap) (n0 : Nat) (v : Option Value) (h : Heap) (L : List Loc) : Prop := v = some (.int ((c4_ &&& (255 : Int32)).toUInt32.toUInt16.toUInt32.toInt32)) ∧ Fr n0 L ∧ h = h0
set_option maxRecDepth 65536 in
set_option maxHeartbeats 40000000 in
theorem rgh8_4 (l : Launch) (Z : State) (a0 : Array Value) (hw : ∀ d ∈ tables_1, d.before a0 Z = true) (ws : List Jvm.Cond) (s_ : Addr) (b : Addr) (cb : ClassId) (qc : Int32) (vf : Value) (c0_ : Int32) (c1_ : Int32) (c2_ : Int32) (c3_ : Int32) (c4_ : Int32) (c5_ : Int32) (c6_ : Int32) (c7_ : Int32) (h0 : Heap) (n0 : Nat) (Z0 : n0 ≤ h0.size) (E_s : Exa Z h0 s_ "java/lang/String") (F_v : Fld Z h0 s_ "java/lang/String" "value" "[B" (.ref b)) (F_c : Fld Z h0 s_ "java/lang/String" "coder" "B" (.int (0 : Int32))) (V_b : Arv Z h0 b cb .byte (8 : Int32) [(.int c0_), (.int c1_), (.int c2_), (.int c3_), (.int c4_), (.int c5_), (.int c6_), (.int c7_)] (.int (0 : Int32))) (S_q : Sta Z h0 "java/lang/String" "COMPACT_STRINGS" "Z" (.int qc)) (hq : ¬ qc = 0) (S_f : Sta Z h0 "jdk/internal/util/Preconditions" "SIOOBE_FORMATTER" "Ljava/util/function/BiFunction;" vf) (rvf : vf.isRef = true) :
    OCon l Z (⟨"java/lang/String", "charAt", "(I)C"⟩ : MethodName) jdk_42_method_56_code 2 (some .char) ws ({ frames := 3, cells := 0, slots := 0, locals := 40 } : Room) #[(.ref s_), (.int (4 : Int32))] h0 (Q_rgh8_4 Z s_ b cb qc vf c0_ c1_ c2_ c3_ c4_ c5_ c6_ c7_ h0 n0) := by
  refine OCon.of (plainFor_of_name pn0) ?_
  intro p e s m below meth c s₁ Φ X0 hx hby hml hown hnm hret hlk hZ e0 hΦ
  have N0 := Fr.nil n0
  refine OGo.st (fun _ kz => castTop (ef_rgh8_4 m s_ (4 : Int32)) kz) ?_
  show OG p e below Φ s₁ m 0 #[rv s_, iv 4] []
  refine OGo.st (fun _ kz => XS.aloadN X0.here hx rfl (hb hby d10_0) rfl rfl kz) ?_
  show OG p e below Φ s₁ m 1 #[rv s_, iv 4] [(.ref s_)]
  obtain ⟨_, T1, L1, X1, hQ1, st1⟩ := own_callVi X0 hx hZ hown (ow49 hw) (ow50 hw) (notFace_of_selects (args := #[]) (mvT hZ (ow52 hw))) (ow52 hw) (ow51 hw) (ow8 hw) (ow53 hw) (by decide) (rgis l Z a0 hw [] s_ qc h0 n0 Z0 F_c S_q hq) e0 (W := 0) (by decide) (by decide) (by decide) (by decide) E_s (pc := 1) (ls := #[rv s_, iv 4]) (stk := [(.ref s_)]) (by rw [hml]; rfl) (argsL := []) (rest := []) (lenOf pd8 rfl) rfl rfl (Nat.le_of_eq rfl) (hb hby d10_1)
  obtain ⟨rfl, Nq1, e1⟩ := hQ1
  have N1 := Fr.app N0 Nq1
  refine OGo.st st1 ?_
  show OG p e below Φ T1 m 4 #[rv s_, iv 4] [(.int 1)]
  refine OGo.st (fun _ kz => XS.ifNo X1.here hx rfl (hb hby d10_4) rfl (XT.i0_eq_f (by decide)) kz) ?_
  show OG p e below Φ T1 m 7 #[rv s_, iv 4] []
  refine OGo.st (fun _ kz => XS.aloadN X1.here hx rfl (hb hby d10_7) rfl rfl kz) ?_
  show OG p e below Φ T1 m 8 #[rv s_, iv 4] [(.ref s_)]
  obtain ⟨T2, X2, e2, st2⟩ := getF X1 hx hZ hown (host := "") (Or.inl (ow32 hw)) Via.refl e1 F_v (g := (mkF m 8 #[rv s_, iv 4] [(.ref s_)])) rfl rfl (hb hby d10_8)
  refine OGo.st st2 ?_
  show OG p e below Φ T2 m 11 #[rv s_, iv 4] [(.ref b)]
  refine OGo.st (fun _ kz => XS.iloadN X2.here hx rfl (hb hby d10_11) rfl kz) ?_
  show OG p e below Φ T2 m 12 #[rv s_, iv 4] [(.int 4), (.ref b)]
  obtain ⟨_, T3, L3, X3, hQ3, st3⟩ := own_callSt X2 hx hZ hown (ow54 hw) (ow55 hw) (ow56 hw) (ow57 hw) (by decide) (rgl8_4 l Z a0 hw [] b cb vf c0_ c1_ c2_ c3_ c4_ c5_ c6_ c7_ h0 n0 Z0 V_b S_f rvf) e2 (W := 0) (by decide) (by decide) (by decide) (by decide) (pc := 12) (ls := #[rv s_, iv 4]) (stk := [(.int 4), (.ref b)]) (by rw [hml]; rfl) (argsL := [(.ref b), (.int 4)]) (rest := []) (lenOf pd9 rfl) rfl rfl (Nat.le_of_eq rfl) (hb hby d10_12)
  obtain ⟨rfl, Nq3, e3⟩ := hQ3
  have N3 := Fr.app N1 Nq3
  refine OGo.st st3 ?_
  show OG p e below Φ T3 m 15 #[rv s_, iv 4] [(.int ((c4_ &&& (255 : Int32)).toUInt32.toUInt16.toUInt32.toInt32))]
  refine OGo.fin X3 hlk (v := (some (.int ((c4_ &&& (255 : Int32)).toUInt32.toUInt16.toUInt32.toInt32)))) (fun h => by rw [hret] at h; cases h) (by decide) (by decide) (fun fs hr => X3.ireturnOut hx hret (XT.narrow_c _) (by simp) (hb hby d10_15) hr) fun U eU hF => hΦ _ _ _ ?_ hF
  rw [eU, e3]
  show Q_rgh8_4 Z s_ b cb qc vf c0_ c1_ c2_ c3_ c4_ c5_ c6_ c7_ h0 n0 _ _ _
  exact ⟨rfl, N3, rfl⟩

theorem ef_rgl8_5 (m : MethodId) (x0 : Addr) (x1 : Int32) : entryFrame m #[(.ref x0), (.int x1)] 2 = mkF m 0 #[.val (.ref x0), .val (.int x1)] [] := by first | (simp [entryFrame, mkF, argsToLocals, Value.category]; done) | rfl
def Q_rgl8_5 (Z : State) (b : Addr) (cb : ClassId) (vf : Value) (c0_ : Int32) (c1_ : Int32) (c2_ : Int32) (c3_ : Int32) (c4_ : Int32) (c5_ : Int32) (c6_ : Int32) (c7_ : Int32) (h0 : Heap) (n0 : Nat) (v : Option Value) (h : Heap) (L : List Loc) : Prop := v = some (.int ((c5_ &&& (255 : Int32)).toUInt32.toUInt16.toUInt32.toInt32)) ∧ Fr n0 L ∧ h = h0
set_option maxRecDepth 65536 in
set_option maxHeartbeats 40000000 in
theorem rgl8_5 (l : Launch) (Z : State) (a0 : Array Value) (hw : ∀ d ∈ tables_1, d.before a0 Z = true) (ws : List Jvm.Cond) (b : Addr) (cb : ClassId) (vf : Value) (c0_ : Int32) (c1_ : Int32) (c2_ : Int32) (c3_ : Int32) (c4_ : Int32) (c5_ : Int32) (c6_ : Int32) (c7_ : Int32) (h0 : Heap) (n0 : Nat) (Z0 : n0 ≤ h0.size) (V_b : Arv Z h0 b cb .byte (8 : Int32) [(.int c0_), (.int c1_), (.int c2_), (.int c3_), (.int c4_), (.int c5_), (.int c6_), (.int c7_)] (.int (0 : Int32))) (S_f : Sta Z h0 "jdk/internal/util/Preconditions" "SIOOBE_FORMATTER" "Ljava/util/function/BiFunction;" vf) (rvf : vf.isRef = true) :
    OCon l Z (⟨"java/lang/StringLatin1", "charAt", "([BI)C"⟩ : MethodName) jdk_43_method_2_code 2 (some .char) ws ({ frames := 2, cells := 0, slots := 0, locals := 27 } : Room) #[(.ref b), (.int (5 : Int32))] h0 (Q_rgl8_5 Z b cb vf c0_ c1_ c2_ c3_ c4_ c5_ c6_ c7_ h0 n0) := by
  refine OCon.of (plainFor_of_name pn5) ?_
  intro p e s m below meth c s₁ Φ X0 hx hby hml hown hnm hret hlk hZ e0 hΦ
  have N0 := Fr.nil n0
  refine OGo.st (fun _ kz => castTop (ef_rgl8_5 m b (5 : Int32)) kz) ?_
  show OG p e below Φ s₁ m 0 #[rv b, iv 5] []
  refine OGo.st (fun _ kz => XS.iloadN X0.here hx rfl (hb hby d12_0) rfl kz) ?_
  show OG p e below Φ s₁ m 1 #[rv b, iv 5] [(.int 5)]
  refine OGo.st (fun _ kz => XS.aloadN X0.here hx rfl (hb hby d12_1) rfl rfl kz) ?_
  show OG p e below Φ s₁ m 2 #[rv b, iv 5] [(.ref b), (.int 5)]
  obtain ⟨cl1, Aq1, -, S1, M1, -, -⟩ := id V_b
  refine OGo.st (fun _ kz => X0.arraylength hx (by rw [e0]; exact Aq1.1) (State.isArrayOf_alike hZ.alike Aq1.2.1) (g := (mkF m 2 #[rv b, iv 5] [(.ref b), (.int 5)])) rfl rfl (hb hby d12_2) _ kz) ?_
  rw [len_of S1 M1]
  show OG p e below Φ s₁ m 3 #[rv b, iv 5] [(.int 8), (.int 5)]
  obtain ⟨_, T2, L2, X2, hQ2, st2⟩ := own_callSt X0 hx hZ hown (ow58 hw) (ow59 hw) (ow8 hw) (ow60 hw) (by decide) (rgci l Z a0 hw [] (5 : Int32) (8 : Int32) vf h0 n0 Z0 (by decide) (by decide) S_f rvf) e0 (W := 0) (by decide) (by decide) (by decide) (by decide) (pc := 3) (ls := #[rv b, iv 5]) (stk := [(.int 8), (.int 5)]) (by rw [hml]; rfl) (argsL := [(.int 5), (.int 8)]) (rest := []) (lenOf pd7 rfl) rfl rfl (Nat.le_of_eq rfl) (hb hby d12_3)
  obtain ⟨rfl, Nq2, e2⟩ := hQ2
  have N2 := Fr.app N0 Nq2
  refine OGo.st st2 ?_
  show OG p e below Φ T2 m 6 #[rv b, iv 5] []
  refine OGo.st (fun _ kz => XS.aloadN X2.here hx rfl (hb hby d12_6) rfl rfl kz) ?_
  show OG p e below Φ T2 m 7 #[rv b, iv 5] [(.ref b)]
  refine OGo.st (fun _ kz => XS.iloadN X2.here hx rfl (hb hby d12_7) rfl kz) ?_
  show OG p e below Φ T2 m 8 #[rv b, iv 5] [(.int 5), (.ref b)]
  obtain ⟨cl3, Aq3, -, S3, M3, H3, -⟩ := id V_b
  have in3 : ¬ ((5 : Int32) < 0 ∨ cl3.slots.size ≤ (5 : Int32).toNatClampNeg) := inb_of S3 ⟨by decide, by decide⟩
  have at3 : cl3.slots[(5 : Int32).toNatClampNeg]? = some (.int c5_) := H3.at in3 rfl
  refine OGo.st (fun _ kz => X2.baloadBytes hx (by rw [e2]; exact Aq3.1) (State.isArrayOf_alike hZ.alike Aq3.2.1) Aq3.2.2 in3 at3 (g := (mkF m 8 #[rv b, iv 5] [(.int 5), (.ref b)])) rfl rfl (hb hby d12_8) _ kz) ?_
  show OG p e below Φ T2 m 9 #[rv b, iv 5] [(.int c5_)]
  refine OGo.st (fun _ kz => XS.sipush X2.here hx rfl (hb hby d12_9) kz) ?_
  show OG p e below Φ T2 m 12 #[rv b, iv 5] [(.int 255), (.int c5_)]
  refine OGo.st (fun _ kz => XS.iand X2.here hx rfl (hb hby d12_12) rfl kz) ?_
  show OG p e below Φ T2 m 13 #[rv b, iv 5] [(.int (c5_ &&& (255 : Int32)))]
  refine OGo.st (fun _ kz => XT.i2c X2.here hx rfl (hb hby d12_13) rfl kz) ?_
  show OG p e below Φ T2 m 14 #[rv b, iv 5] [(.int ((c5_ &&& (255 : Int32)).toUInt32.toUInt16.toUInt32.toInt32))]
  refine OGo.fin X2 hlk (v := (some (.int ((c5_ &&& (255 : Int32)).toUInt32.toUInt16.toUInt32.toInt32)))) (fun h => by rw [hret] at h; cases h) (by decide) (by decide) (fun fs hr => X2.ireturnOut hx hret (XT.narrow_c _) (by simp) (hb hby d12_14) hr) fun U eU hF => hΦ _ _ _ ?_ hF
  rw [eU, e2]
  show Q_rgl8_5 Z b cb vf c0_ c1_ c2_ c3_ c4_ c5_ c6_ c7_ h0 n0 _ _ _
  exact ⟨rfl, N2, rfl⟩

theorem ef_rgh8_5 (m : MethodId) (x0 : Addr) (x1 : Int32) : entryFrame m #[(.ref x0), (.int x1)] 2 = mkF m 0 #[.val (.ref x0), .val (.int x1)] [] := by first | (simp [entryFrame, mkF, argsToLocals, Value.category]; done) | rfl
def Q_rgh8_5 (Z : State) (s_ : Addr) (b : Addr) (cb : ClassId) (qc : Int32) (vf : Value) (c0_ : Int32) (c1_ : Int32) (c2_ : Int32) (c3_ : Int32) (c4_ : Int32) (c5_ : Int32) (c6_ : Int32) (c7_ : Int32) (h0 : Heap) (n0 : Nat) (v : Option Value) (h : Heap) (L : List Loc) : Prop := v = some (.int ((c5_ &&& (255 : Int32)).toUInt32.toUInt16.toUInt32.toInt32)) ∧ Fr n0 L ∧ h = h0
set_option maxRecDepth 65536 in
set_option maxHeartbeats 40000000 in
theorem rgh8_5 (l : Launch) (Z : State) (a0 : Array Value) (hw : ∀ d ∈ tables_1, d.before a0 Z = true) (ws : List Jvm.Cond) (s_ : Addr) (b : Addr) (cb : ClassId) (qc : Int32) (vf : Value) (c0_ : Int32) (c1_ : Int32) (c2_ : Int32) (c3_ : Int32) (c4_ : Int32) (c5_ : Int32) (c6_ : Int32) (c7_ : Int32) (h0 : Heap) (n0 : Nat) (Z0 : n0 ≤ h0.size) (E_s : Exa Z h0 s_ "java/lang/String") (F_v : Fld Z h0 s_ "java/lang/String" "value" "[B" (.ref b)) (F_c : Fld Z h0 s_ "java/lang/String" "coder" "B" (.int (0 : Int32))) (V_b : Arv Z h0 b cb .byte (8 : Int32) [(.int c0_), (.int c1_), (.int c2_), (.int c3_), (.int c4_), (.int c5_), (.int c6_), (.int c7_)] (.int (0 : Int32))) (S_q : Sta Z h0 "java/lang/String" "COMPACT_STRINGS" "Z" (.int qc)) (hq : ¬ qc = 0) (S_f : Sta Z h0 "jdk/internal/util/Preconditions" "SIOOBE_FORMATTER" "Ljava/util/function/BiFunction;" vf) (rvf : vf.isRef = true) :
    OCon l Z (⟨"java/lang/String", "charAt", "(I)C"⟩ : MethodName) jdk_42_method_56_code 2 (some .char) ws ({ frames := 3, cells := 0, slots := 0, locals := 40 } : Room) #[(.ref s_), (.int (5 : Int32))] h0 (Q_rgh8_5 Z s_ b cb qc vf c0_ c1_ c2_ c3_ c4_ c5_ c6_ c7_ h0 n0) := by
  refine OCon.of (plainFor_of_name pn0) ?_
  intro p e s m below meth c s₁ Φ X0 hx hby hml hown hnm hret hlk hZ e0 hΦ
  have N0 := Fr.nil n0
  refine OGo.st (fun _ kz => castTop (ef_rgh8_5 m s_ (5 : Int32)) kz) ?_
  show OG p e below Φ s₁ m 0 #[rv s_, iv 5] []
  refine OGo.st (fun _ kz => XS.aloadN X0.here hx rfl (hb hby d10_0) rfl rfl kz) ?_
  show OG p e below Φ s₁ m 1 #[rv s_, iv 5] [(.ref s_)]
  obtain ⟨_, T1, L1, X1, hQ1, st1⟩ := own_callVi X0 hx hZ hown (ow49 hw) (ow50 hw) (notFace_of_selects (args := #[]) (mvT hZ (ow52 hw))) (ow52 hw) (ow51 hw) (ow8 hw) (ow53 hw) (by decide) (rgis l Z a0 hw [] s_ qc h0 n0 Z0 F_c S_q hq) e0 (W := 0) (by decide) (by decide) (by decide) (by decide) E_s (pc := 1) (ls := #[rv s_, iv 5]) (stk := [(.ref s_)]) (by rw [hml]; rfl) (argsL := []) (rest := []) (lenOf pd8 rfl) rfl rfl (Nat.le_of_eq rfl) (hb hby d10_1)
  obtain ⟨rfl, Nq1, e1⟩ := hQ1
  have N1 := Fr.app N0 Nq1
  refine OGo.st st1 ?_
  show OG p e below Φ T1 m 4 #[rv s_, iv 5] [(.int 1)]
  refine OGo.st (fun _ kz => XS.ifNo X1.here hx rfl (hb hby d10_4) rfl (XT.i0_eq_f (by decide)) kz) ?_
  show OG p e below Φ T1 m 7 #[rv s_, iv 5] []
  refine OGo.st (fun _ kz => XS.aloadN X1.here hx rfl (hb hby d10_7) rfl rfl kz) ?_
  show OG p e below Φ T1 m 8 #[rv s_, iv 5] [(.ref s_)]
  obtain ⟨T2, X2, e2, st2⟩ := getF X1 hx hZ hown (host := "") (Or.inl (ow32 hw)) Via.refl e1 F_v (g := (mkF m 8 #[rv s_, iv 5] [(.ref s_)])) rfl rfl (hb hby d10_8)
  refine OGo.st st2 ?_
  show OG p e below Φ T2 m 11 #[rv s_, iv 5] [(.ref b)]
  refine OGo.st (fun _ kz => XS.iloadN X2.here hx rfl (hb hby d10_11) rfl kz) ?_
  show OG p e below Φ T2 m 12 #[rv s_, iv 5] [(.int 5), (.ref b)]
  obtain ⟨_, T3, L3, X3, hQ3, st3⟩ := own_callSt X2 hx hZ hown (ow54 hw) (ow55 hw) (ow56 hw) (ow57 hw) (by decide) (rgl8_5 l Z a0 hw [] b cb vf c0_ c1_ c2_ c3_ c4_ c5_ c6_ c7_ h0 n0 Z0 V_b S_f rvf) e2 (W := 0) (by decide) (by decide) (by decide) (by decide) (pc := 12) (ls := #[rv s_, iv 5]) (stk := [(.int 5), (.ref b)]) (by rw [hml]; rfl) (argsL := [(.ref b), (.int 5)]) (rest := []) (lenOf pd9 rfl) rfl rfl (Nat.le_of_eq rfl) (hb hby d10_12)
  obtain ⟨rfl, Nq3, e3⟩ := hQ3
  have N3 := Fr.app N1 Nq3
  refine OGo.st st3 ?_
  show OG p e below Φ T3 m 15 #[rv s_, iv 5] [(.int ((c5_ &&& (255 : Int32)).toUInt32.toUInt16.toUInt32.toInt32))]
  refine OGo.fin X3 hlk (v := (some (.int ((c5_ &&& (255 : Int32)).toUInt32.toUInt16.toUInt32.toInt32)))) (fun h => by rw [hret] at h; cases h) (by decide) (by decide) (fun fs hr => X3.ireturnOut hx hret (XT.narrow_c _) (by simp) (hb hby d10_15) hr) fun U eU hF => hΦ _ _ _ ?_ hF
  rw [eU, e3]
  show Q_rgh8_5 Z s_ b cb qc vf c0_ c1_ c2_ c3_ c4_ c5_ c6_ c7_ h0 n0 _ _ _
  exact ⟨rfl, N3, rfl⟩

theorem ef_rgl8_6 (m : MethodId) (x0 : Addr) (x1 : Int32) : entryFrame m #[(.ref x0), (.int x1)] 2 = mkF m 0 #[.val (.ref x0), .val (.int x1)] [] := by first | (simp [entryFrame, mkF, argsToLocals, Value.category]; done) | rfl
def Q_rgl8_6 (Z : State) (b : Addr) (cb : ClassId) (vf : Value) (c0_ : Int32) (c1_ : Int32) (c2_ : Int32) (c3_ : Int32) (c4_ : Int32) (c5_ : Int32) (c6_ : Int32) (c7_ : Int32) (h0 : Heap) (n0 : Nat) (v : Option Value) (h : Heap) (L : List Loc) : Prop := v = some (.int ((c6_ &&& (255 : Int32)).toUInt32.toUInt16.toUInt32.toInt32)) ∧ Fr n0 L ∧ h = h0
set_option maxRecDepth 65536 in
set_option maxHeartbeats 40000000 in
theorem rgl8_6 (l : Launch) (Z : State) (a0 : Array Value) (hw : ∀ d ∈ tables_1, d.before a0 Z = true) (ws : List Jvm.Cond) (b : Addr) (cb : ClassId) (vf : Value) (c0_ : Int32) (c1_ : Int32) (c2_ : Int32) (c3_ : Int32) (c4_ : Int32) (c5_ : Int32) (c6_ : Int32) (c7_ : Int32) (h0 : Heap) (n0 : Nat) (Z0 : n0 ≤ h0.size) (V_b : Arv Z h0 b cb .byte (8 : Int32) [(.int c0_), (.int c1_), (.int c2_), (.int c3_), (.int c4_), (.int c5_), (.int c6_), (.int c7_)] (.int (0 : Int32))) (S_f : Sta Z h0 "jdk/internal/util/Preconditions" "SIOOBE_FORMATTER" "Ljava/util/function/BiFunction;" vf) (rvf : vf.isRef = true) :
    OCon l Z (⟨"java/lang/StringLatin1", "charAt", "([BI)C"⟩ : MethodName) jdk_43_method_2_code 2 (some .char) ws ({ frames := 2, cells := 0, slots := 0, locals := 27 } : Room) #[(.ref b), (.int (6 : Int32))] h0 (Q_rgl8_6 Z b cb vf c0_ c1_ c2_ c3_ c4_ c5_ c6_ c7_ h0 n0) := by
  refine OCon.of (plainFor_of_name pn5) ?_
  intro p e s m below meth c s₁ Φ X0 hx hby hml hown hnm hret hlk hZ e0 hΦ
  have N0 := Fr.nil n0
  refine OGo.st (fun _ kz => castTop (ef_rgl8_6 m b (6 : Int32)) kz) ?_
  show OG p e below Φ s₁ m 0 #[rv b, iv 6] []
  refine OGo.st (fun _ kz => XS.iloadN X0.here hx rfl (hb hby d12_0) rfl kz) ?_
  show OG p e below Φ s₁ m 1 #[rv b, iv 6] [(.int 6)]
  refine OGo.st (fun _ kz => XS.aloadN X0.here hx rfl (hb hby d12_1) rfl rfl kz) ?_
  show OG p e below Φ s₁ m 2 #[rv b, iv 6] [(.ref b), (.int 6)]
  obtain ⟨cl1, Aq1, -, S1, M1, -, -⟩ := id V_b
  refine OGo.st (fun _ kz => X0.arraylength hx (by rw [e0]; exact Aq1.1) (State.isArrayOf_alike hZ.alike Aq1.2.1) (g := (mkF m 2 #[rv b, iv 6] [(.ref b), (.int 6)])) rfl rfl (hb hby d12_2) _ kz) ?_
  rw [len_of S1 M1]
  show OG p e below Φ s₁ m 3 #[rv b, iv 6] [(.int 8), (.int 6)]
  obtain ⟨_, T2, L2, X2, hQ2, st2⟩ := own_callSt X0 hx hZ hown (ow58 hw) (ow59 hw) (ow8 hw) (ow60 hw) (by decide) (rgci l Z a0 hw [] (6 : Int32) (8 : Int32) vf h0 n0 Z0 (by decide) (by decide) S_f rvf) e0 (W := 0) (by decide) (by decide) (by decide) (by decide) (pc := 3) (ls := #[rv b, iv 6]) (stk := [(.int 8), (.int 6)]) (by rw [hml]; rfl) (argsL := [(.int 6), (.int 8)]) (rest := []) (lenOf pd7 rfl) rfl rfl (Nat.le_of_eq rfl) (hb hby d12_3)
  obtain ⟨rfl, Nq2, e2⟩ := hQ2
  have N2 := Fr.app N0 Nq2
  refine OGo.st st2 ?_
  show OG p e below Φ T2 m 6 #[rv b, iv 6] []
  refine OGo.st (fun _ kz => XS.aloadN X2.here hx rfl (hb hby d12_6) rfl rfl kz) ?_
  show OG p e below Φ T2 m 7 #[rv b, iv 6] [(.ref b)]
  refine OGo.st (fun _ kz => XS.iloadN X2.here hx rfl (hb hby d12_7) rfl kz) ?_
  show OG p e below Φ T2 m 8 #[rv b, iv 6] [(.int 6), (.ref b)]
  obtain ⟨cl3, Aq3, -, S3, M3, H3, -⟩ := id V_b
  have in3 : ¬ ((6 : Int32) < 0 ∨ cl3.slots.size ≤ (6 : Int32).toNatClampNeg) := inb_of S3 ⟨by decide, by decide⟩
  have at3 : cl3.slots[(6 : Int32).toNatClampNeg]? = some (.int c6_) := H3.at in3 rfl
  refine OGo.st (fun _ kz => X2.baloadBytes hx (by rw [e2]; exact Aq3.1) (State.isArrayOf_alike hZ.alike Aq3.2.1) Aq3.2.2 in3 at3 (g := (mkF m 8 #[rv b, iv 6] [(.int 6), (.ref b)])) rfl rfl (hb hby d12_8) _ kz) ?_
  show OG p e below Φ T2 m 9 #[rv b, iv 6] [(.int c6_)]
  refine OGo.st (fun _ kz => XS.sipush X2.here hx rfl (hb hby d12_9) kz) ?_
  show OG p e below Φ T2 m 12 #[rv b, iv 6] [(.int 255), (.int c6_)]
  refine OGo.st (fun _ kz => XS.iand X2.here hx rfl (hb hby d12_12) rfl kz) ?_
  show OG p e below Φ T2 m 13 #[rv b, iv 6] [(.int (c6_ &&& (255 : Int32)))]
  refine OGo.st (fun _ kz => XT.i2c X2.here hx rfl (hb hby d12_13) rfl kz) ?_
  show OG p e below Φ T2 m 14 #[rv b, iv 6] [(.int ((c6_ &&& (255 : Int32)).toUInt32.toUInt16.toUInt32.toInt32))]
  refine OGo.fin X2 hlk (v := (some (.int ((c6_ &&& (255 : Int32)).toUInt32.toUInt16.toUInt32.toInt32)))) (fun h => by rw [hret] at h; cases h) (by decide) (by decide) (fun fs hr => X2.ireturnOut hx hret (XT.narrow_c _) (by simp) (hb hby d12_14) hr) fun U eU hF => hΦ _ _ _ ?_ hF
  rw [eU, e2]
  show Q_rgl8_6 Z b cb vf c0_ c1_ c2_ c3_ c4_ c5_ c6_ c7_ h0 n0 _ _ _
  exact ⟨rfl, N2, rfl⟩

theorem ef_rgh8_6 (m : MethodId) (x0 : Addr) (x1 : Int32) : entryFrame m #[(.ref x0), (.int x1)] 2 = mkF m 0 #[.val (.ref x0), .val (.int x1)] [] := by first | (simp [entryFrame, mkF, argsToLocals, Value.category]; done) | rfl
def Q_rgh8_6 (Z : State) (s_ : Addr) (b : Addr) (cb : ClassId) (qc : Int32) (vf : Value) (c0_ : Int32) (c1_ : Int32) (c2_ : Int32) (c3_ : Int32) (c4_ : Int32) (c5_ : Int32) (c6_ : Int32) (c7_ : Int32) (h0 : Heap) (n0 : Nat) (v : Option Value) (h : Heap) (L : List Loc) : Prop := v = some (.int ((c6_ &&& (255 : Int32)).toUInt32.toUInt16.toUInt32.toInt32)) ∧ Fr n0 L ∧ h = h0
set_option maxRecDepth 65536 in
set_option maxHeartbeats 40000000 in
theorem rgh8_6 (l : Launch) (Z : State) (a0 : Array Value) (hw : ∀ d ∈ tables_1, d.before a0 Z = true) (ws : List Jvm.Cond) (s_ : Addr) (b : Addr) (cb : ClassId) (qc : Int32) (vf : Value) (c0_ : Int32) (c1_ : Int32) (c2_ : Int32) (c3_ : Int32) (c4_ : Int32) (c5_ : Int32) (c6_ : Int32) (c7_ : Int32) (h0 : Heap) (n0 : Nat) (Z0 : n0 ≤ h0.size) (E_s : Exa Z h0 s_ "java/lang/String") (F_v : Fld Z h0 s_ "java/lang/String" "value" "[B" (.ref b)) (F_c : Fld Z h0 s_ "java/lang/String" "coder" "B" (.int (0 : Int32))) (V_b : Arv Z h0 b cb .byte (8 : Int32) [(.int c0_), (.int c1_), (.int c2_), (.int c3_), (.int c4_), (.int c5_), (.int c6_), (.int c7_)] (.int (0 : Int32))) (S_q : Sta Z h0 "java/lang/String" "COMPACT_STRINGS" "Z" (.int qc)) (hq : ¬ qc = 0) (S_f : Sta Z h0 "jdk/internal/util/Preconditions" "SIOOBE_FORMATTER" "Ljava/util/function/BiFunction;" vf) (rvf : vf.isRef = true) :
    OCon l Z (⟨"java/lang/String", "charAt", "(I)C"⟩ : MethodName) jdk_42_method_56_code 2 (some .char) ws ({ frames := 3, cells := 0, slots := 0, locals := 40 } : Room) #[(.ref s_), (.int (6 : Int32))] h0 (Q_rgh8_6 Z s_ b cb qc vf c0_ c1_ c2_ c3_ c4_ c5_ c6_ c7_ h0 n0) := by
  refine OCon.of (plainFor_of_name pn0) ?_
  intro p e s m below meth c s₁ Φ X0 hx hby hml hown hnm hret hlk hZ e0 hΦ
  have N0 := Fr.nil n0
  refine OGo.st (fun _ kz => castTop (ef_rgh8_6 m s_ (6 : Int32)) kz) ?_
  show OG p e below Φ s₁ m 0 #[rv s_, iv 6] []
  refine OGo.st (fun _ kz => XS.aloadN X0.here hx rfl (hb hby d10_0) rfl rfl kz) ?_
  show OG p e below Φ s₁ m 1 #[rv s_, iv 6] [(.ref s_)]
  obtain ⟨_, T1, L1, X1, hQ1, st1⟩ := own_callVi X0 hx hZ hown (ow49 hw) (ow50 hw) (notFace_of_selects (args := #[]) (mvT hZ (ow52 hw))) (ow52 hw) (ow51 hw) (ow8 hw) (ow53 hw) (by decide) (rgis l Z a0 hw [] s_ qc h0 n0 Z0 F_c S_q hq) e0 (W := 0) (by decide) (by decide) (by decide) (by decide) E_s (pc := 1) (ls := #[rv s_, iv 6]) (stk := [(.ref s_)]) (by rw [hml]; rfl) (argsL := []) (rest := []) (lenOf pd8 rfl) rfl rfl (Nat.le_of_eq rfl) (hb hby d10_1)
  obtain ⟨rfl, Nq1, e1⟩ := hQ1
  have N1 := Fr.app N0 Nq1
  refine OGo.st st1 ?_
  show OG p e below Φ T1 m 4 #[rv s_, iv 6] [(.int 1)]
  refine OGo.st (fun _ kz => XS.ifNo X1.here hx rfl (hb hby d10_4) rfl (XT.i0_eq_f (by decide)) kz) ?_
  show OG p e below Φ T1 m 7 #[rv s_, iv 6] []
  refine OGo.st (fun _ kz => XS.aloadN X1.here hx rfl (hb hby d10_7) rfl rfl kz) ?_
  show OG p e below Φ T1 m 8 #[rv s_, iv 6] [(.ref s_)]
  obtain ⟨T2, X2, e2, st2⟩ := getF X1 hx hZ hown (host := "") (Or.inl (ow32 hw)) Via.refl e1 F_v (g := (mkF m 8 #[rv s_, iv 6] [(.ref s_)])) rfl rfl (hb hby d10_8)
  refine OGo.st st2 ?_
  show OG p e below Φ T2 m 11 #[rv s_, iv 6] [(.ref b)]
  refine OGo.st (fun _ kz => XS.iloadN X2.here hx rfl (hb hby d10_11) rfl kz) ?_
  show OG p e below Φ T2 m 12 #[rv s_, iv 6] [(.int 6), (.ref b)]
  obtain ⟨_, T3, L3, X3, hQ3, st3⟩ := own_callSt X2 hx hZ hown (ow54 hw) (ow55 hw) (ow56 hw) (ow57 hw) (by decide) (rgl8_6 l Z a0 hw [] b cb vf c0_ c1_ c2_ c3_ c4_ c5_ c6_ c7_ h0 n0 Z0 V_b S_f rvf) e2 (W := 0) (by decide) (by decide) (by decide) (by decide) (pc := 12) (ls := #[rv s_, iv 6]) (stk := [(.int 6), (.ref b)]) (by rw [hml]; rfl) (argsL := [(.ref b), (.int 6)]) (rest := []) (lenOf pd9 rfl) rfl rfl (Nat.le_of_eq rfl) (hb hby d10_12)
  obtain ⟨rfl, Nq3, e3⟩ := hQ3
  have N3 := Fr.app N1 Nq3
  refine OGo.st st3 ?_
  show OG p e below Φ T3 m 15 #[rv s_, iv 6] [(.int ((c6_ &&& (255 : Int32)).toUInt32.toUInt16.toUInt32.toInt32))]
  refine OGo.fin X3 hlk (v := (some (.int ((c6_ &&& (255 : Int32)).toUInt32.toUInt16.toUInt32.toInt32)))) (fun h => by rw [hret] at h; cases h) (by decide) (by decide) (fun fs hr => X3.ireturnOut hx hret (XT.narrow_c _) (by simp) (hb hby d10_15) hr) fun U eU hF => hΦ _ _ _ ?_ hF
  rw [eU, e3]
  show Q_rgh8_6 Z s_ b cb qc vf c0_ c1_ c2_ c3_ c4_ c5_ c6_ c7_ h0 n0 _ _ _
  exact ⟨rfl, N3, rfl⟩

theorem ef_rgl8_7 (m : MethodId) (x0 : Addr) (x1 : Int32) : entryFrame m #[(.ref x0), (.int x1)] 2 = mkF m 0 #[.val (.ref x0), .val (.int x1)] [] := by first | (simp [entryFrame, mkF, argsToLocals, Value.category]; done) | rfl
def Q_rgl8_7 (Z : State) (b : Addr) (cb : ClassId) (vf : Value) (c0_ : Int32) (c1_ : Int32) (c2_ : Int32) (c3_ : Int32) (c4_ : Int32) (c5_ : Int32) (c6_ : Int32) (c7_ : Int32) (h0 : Heap) (n0 : Nat) (v : Option Value) (h : Heap) (L : List Loc) : Prop := v = some (.int ((c7_ &&& (255 : Int32)).toUInt32.toUInt16.toUInt32.toInt32)) ∧ Fr n0 L ∧ h = h0
set_option maxRecDepth 65536 in
set_option maxHeartbeats 40000000 in
theorem rgl8_7 (l : Launch) (Z : State) (a0 : Array Value) (hw : ∀ d ∈ tables_1, d.before a0 Z = true) (ws : List Jvm.Cond) (b : Addr) (cb : ClassId) (vf : Value) (c0_ : Int32) (c1_ : Int32) (c2_ : Int32) (c3_ : Int32) (c4_ : Int32) (c5_ : Int32) (c6_ : Int32) (c7_ : Int32) (h0 : Heap) (n0 : Nat) (Z0 : n0 ≤ h0.size) (V_b : Arv Z h0 b cb .byte (8 : Int32) [(.int c0_), (.int c1_), (.int c2_), (.int c3_), (.int c4_), (.int c5_), (.int c6_), (.int c7_)] (.int (0 : Int32))) (S_f : Sta Z h0 "jdk/internal/util/Preconditions" "SIOOBE_FORMATTER" "Ljava/util/function/BiFunction;" vf) (rvf : vf.isRef = true) :
    OCon l Z (⟨"java/lang/StringLatin1", "charAt", "([BI)C"⟩ : MethodName) jdk_43_method_2_code 2 (some .char) ws ({ frames := 2, cells := 0, slots := 0, locals := 27 } : Room) #[(.ref b), (.int (7 : Int32))] h0 (Q_rgl8_7 Z b cb vf c0_ c1_ c2_ c3_ c4_ c5_ c6_ c7_ h0 n0) := by
  refine OCon.of (plainFor_of_name pn5) ?_
  intro p e s m below meth c s₁ Φ X0 hx hby hml hown hnm hret hlk hZ e0 hΦ
  have N0 := Fr.nil n0
  refine OGo.st (fun _ kz => castTop (ef_rgl8_7 m b (7 : Int32)) kz) ?_
  show OG p e below Φ s₁ m 0 #[rv b, iv 7] []
  refine OGo.st (fun _ kz => XS.iloadN X0.here hx rfl (hb hby d12_0) rfl kz) ?_
  show OG p e below Φ s₁ m 1 #[rv b, iv 7] [(.int 7)]
  refine OGo.st (fun _ kz => XS.aloadN X0.here hx rfl (hb hby d12_1) rfl rfl kz) ?_
  show OG p e below Φ s₁ m 2 #[rv b, iv 7] [(.ref b), (.int 7)]
  obtain ⟨cl1, Aq1, -, S1, M1, -, -⟩ := id V_b
  refine OGo.st (fun _ kz => X0.arraylength hx (by rw [e0]; exact Aq1.1) (State.isArrayOf_alike hZ.alike Aq1.2.1) (g := (mkF m 2 #[rv b, iv 7] [(.ref b), (.int 7)])) rfl rfl (hb hby d12_2) _ kz) ?_
  rw [len_of S1 M1]
  show OG p e below Φ s₁ m 3 #[rv b, iv 7] [(.int 8), (.int 7)]
  obtain ⟨_, T2, L2, X2, hQ2, st2⟩ := own_callSt X0 hx hZ hown (ow58 hw) (ow59 hw) (ow8 hw) (ow60 hw) (by decide) (rgci l Z a0 hw [] (7 : Int32) (8 : Int32) vf h0 n0 Z0 (by decide) (by decide) S_f rvf) e0 (W := 0) (by decide) (by decide) (by decide) (by decide) (pc := 3) (ls := #[rv b, iv 7]) (stk := [(.int 8), (.int 7)]) (by rw [hml]; rfl) (argsL := [(.int 7), (.int 8)]) (rest := []) (lenOf pd7 rfl) rfl rfl (Nat.le_of_eq rfl) (hb hby d12_3)
  obtain ⟨rfl, Nq2, e2⟩ := hQ2
  have N2 := Fr.app N0 Nq2
  refine OGo.st st2 ?_
  show OG p e below Φ T2 m 6 #[rv b, iv 7] []
  refine OGo.st (fun _ kz => XS.aloadN X2.here hx rfl (hb hby d12_6) rfl rfl kz) ?_
  show OG p e below Φ T2 m 7 #[rv b, iv 7] [(.ref b)]
  refine OGo.st (fun _ kz => XS.iloadN X2.here hx rfl (hb hby d12_7) rfl kz) ?_
  show OG p e below Φ T2 m 8 #[rv b, iv 7] [(.int 7), (.ref b)]
  obtain ⟨cl3, Aq3, -, S3, M3, H3, -⟩ := id V_b
  have in3 : ¬ ((7 : Int32) < 0 ∨ cl3.slots.size ≤ (7 : Int32).toNatClampNeg) := inb_of S3 ⟨by decide, by decide⟩
  have at3 : cl3.slots[(7 : Int32).toNatClampNeg]? = some (.int c7_) := H3.at in3 rfl
  refine OGo.st (fun _ kz => X2.baloadBytes hx (by rw [e2]; exact Aq3.1) (State.isArrayOf_alike hZ.alike Aq3.2.1) Aq3.2.2 in3 at3 (g := (mkF m 8 #[rv b, iv 7] [(.int 7), (.ref b)])) rfl rfl (hb hby d12_8) _ kz) ?_
  show OG p e below Φ T2 m 9 #[rv b, iv 7] [(.int c7_)]
  refine OGo.st (fun _ kz => XS.sipush X2.here hx rfl (hb hby d12_9) kz) ?_
  show OG p e below Φ T2 m 12 #[rv b, iv 7] [(.int 255), (.int c7_)]
  refine OGo.st (fun _ kz => XS.iand X2.here hx rfl (hb hby d12_12) rfl kz) ?_
  show OG p e below Φ T2 m 13 #[rv b, iv 7] [(.int (c7_ &&& (255 : Int32)))]
  refine OGo.st (fun _ kz => XT.i2c X2.here hx rfl (hb hby d12_13) rfl kz) ?_
  show OG p e below Φ T2 m 14 #[rv b, iv 7] [(.int ((c7_ &&& (255 : Int32)).toUInt32.toUInt16.toUInt32.toInt32))]
  refine OGo.fin X2 hlk (v := (some (.int ((c7_ &&& (255 : Int32)).toUInt32.toUInt16.toUInt32.toInt32)))) (fun h => by rw [hret] at h; cases h) (by decide) (by decide) (fun fs hr => X2.ireturnOut hx hret (XT.narrow_c _) (by simp) (hb hby d12_14) hr) fun U eU hF => hΦ _ _ _ ?_ hF
  rw [eU, e2]
  show Q_rgl8_7 Z b cb vf c0_ c1_ c2_ c3_ c4_ c5_ c6_ c7_ h0 n0 _ _ _
  exact ⟨rfl, N2, rfl⟩

theorem ef_rgh8_7 (m : MethodId) (x0 : Addr) (x1 : Int32) : entryFrame m #[(.ref x0), (.int x1)] 2 = mkF m 0 #[.val (.ref x0), .val (.int x1)] [] := by first | (simp [entryFrame, mkF, argsToLocals, Value.category]; done) | rfl
def Q_rgh8_7 (Z : State) (s_ : Addr) (b : Addr) (cb : ClassId) (qc : Int32) (vf : Value) (c0_ : Int32) (c1_ : Int32) (c2_ : Int32) (c3_ : Int32) (c4_ : Int32) (c5_ : Int32) (c6_ : Int32) (c7_ : Int32) (h0 : Heap) (n0 : Nat) (v : Option Value) (h : Heap) (L : List Loc) : Prop := v = some (.int ((c7_ &&& (255 : Int32)).toUInt32.toUInt16.toUInt32.toInt32)) ∧ Fr n0 L ∧ h = h0
set_option maxRecDepth 65536 in
set_option maxHeartbeats 40000000 in
theorem rgh8_7 (l : Launch) (Z : State) (a0 : Array Value) (hw : ∀ d ∈ tables_1, d.before a0 Z = true) (ws : List Jvm.Cond) (s_ : Addr) (b : Addr) (cb : ClassId) (qc : Int32) (vf : Value) (c0_ : Int32) (c1_ : Int32) (c2_ : Int32) (c3_ : Int32) (c4_ : Int32) (c5_ : Int32) (c6_ : Int32) (c7_ : Int32) (h0 : Heap) (n0 : Nat) (Z0 : n0 ≤ h0.size) (E_s : Exa Z h0 s_ "java/lang/String") (F_v : Fld Z h0 s_ "java/lang/String" "value" "[B" (.ref b)) (F_c : Fld Z h0 s_ "java/lang/String" "coder" "B" (.int (0 : Int32))) (V_b : Arv Z h0 b cb .byte (8 : Int32) [(.int c0_), (.int c1_), (.int c2_), (.int c3_), (.int c4_), (.int c5_), (.int c6_), (.int c7_)] (.int (0 : Int32))) (S_q : Sta Z h0 "java/lang/String" "COMPACT_STRINGS" "Z" (.int qc)) (hq : ¬ qc = 0) (S_f : Sta Z h0 "jdk/internal/util/Preconditions" "SIOOBE_FORMATTER" "Ljava/util/function/BiFunction;" vf) (rvf : vf.isRef = true) :
    OCon l Z (⟨"java/lang/String", "charAt", "(I)C"⟩ : MethodName) jdk_42_method_56_code 2 (some .char) ws ({ frames := 3, cells := 0, slots := 0, locals := 40 } : Room) #[(.ref s_), (.int (7 : Int32))] h0 (Q_rgh8_7 Z s_ b cb qc vf c0_ c1_ c2_ c3_ c4_ c5_ c6_ c7_ h0 n0) := by
  refine OCon.of (plainFor_of_name pn0) ?_
  intro p e s m below meth c s₁ Φ X0 hx hby hml hown hnm hret hlk hZ e0 hΦ
  have N0 := Fr.nil n0
  refine OGo.st (fun _ kz => castTop (ef_rgh8_7 m s_ (7 : Int32)) kz) ?_
  show OG p e below Φ s₁ m 0 #[rv s_, iv 7] []
  refine OGo.st (fun _ kz => XS.aloadN X0.here hx rfl (hb hby d10_0) rfl rfl kz) ?_
  show OG p e below Φ s₁ m 1 #[rv s_, iv 7] [(.ref s_)]
  obtain ⟨_, T1, L1, X1, hQ1, st1⟩ := own_callVi X0 hx hZ hown (ow49 hw) (ow50 hw) (notFace_of_selects (args := #[]) (mvT hZ (ow52 hw))) (ow52 hw) (ow51 hw) (ow8 hw) (ow53 hw) (by decide) (rgis l Z a0 hw [] s_ qc h0 n0 Z0 F_c S_q hq) e0 (W := 0) (by decide) (by decide) (by decide) (by decide) E_s (pc := 1) (ls := #[rv s_, iv 7]) (stk := [(.ref s_)]) (by rw [hml]; rfl) (argsL := []) (rest := []) (lenOf pd8 rfl) rfl rfl (Nat.le_of_eq rfl) (hb hby d10_1)
  obtain ⟨rfl, Nq1, e1⟩ := hQ1
  have N1 := Fr.app N0 Nq1
  refine OGo.st st1 ?_
  show OG p e below Φ T1 m 4 #[rv s_, iv 7] [(.int 1)]
  refine OGo.st (fun _ kz => XS.ifNo X1.here hx rfl (hb hby d10_4) rfl (XT.i0_eq_f (by decide)) kz) ?_
  show OG p e below Φ T1 m 7 #[rv s_, iv 7] []
  refine OGo.st (fun _ kz => XS.aloadN X1.here hx rfl (hb hby d10_7) rfl rfl kz) ?_
  show OG p e below Φ T1 m 8 #[rv s_, iv 7] [(.ref s_)]
  obtain ⟨T2, X2, e2, st2⟩ := getF X1 hx hZ hown (host := "") (Or.inl (ow32 hw)) Via.refl e1 F_v (g := (mkF m 8 #[rv s_, iv 7] [(.ref s_)])) rfl rfl (hb hby d10_8)
  refine OGo.st st2 ?_
  show OG p e below Φ T2 m 11 #[rv s_, iv 7] [(.ref b)]
  refine OGo.st (fun _ kz => XS.iloadN X2.here hx rfl (hb hby d10_11) rfl kz) ?_
  show OG p e below Φ T2 m 12 #[rv s_, iv 7] [(.int 7), (.ref b)]
  obtain ⟨_, T3, L3, X3, hQ3, st3⟩ := own_callSt X2 hx hZ hown (ow54 hw) (ow55 hw) (ow56 hw) (ow57 hw) (by decide) (rgl8_7 l Z a0 hw [] b cb vf c0_ c1_ c2_ c3_ c4_ c5_ c6_ c7_ h0 n0 Z0 V_b S_f rvf) e2 (W := 0) (by decide) (by decide) (by decide) (by decide) (pc := 12) (ls := #[rv s_, iv 7]) (stk := [(.int 7), (.ref b)]) (by rw [hml]; rfl) (argsL := [(.ref b), (.int 7)]) (rest := []) (lenOf pd9 rfl) rfl rfl (Nat.le_of_eq rfl) (hb hby d10_12)
  obtain ⟨rfl, Nq3, e3⟩ := hQ3
  have N3 := Fr.app N1 Nq3
  refine OGo.st st3 ?_
  show OG p e below Φ T3 m 15 #[rv s_, iv 7] [(.int ((c7_ &&& (255 : Int32)).toUInt32.toUInt16.toUInt32.toInt32))]
  refine OGo.fin X3 hlk (v := (some (.int ((c7_ &&& (255 : Int32)).toUInt32.toUInt16.toUInt32.toInt32)))) (fun h => by rw [hret] at h; cases h) (by decide) (by decide) (fun fs hr => X3.ireturnOut hx hret (XT.narrow_c _) (by simp) (hb hby d10_15) hr) fun U eU hF => hΦ _ _ _ ?_ hF
  rw [eU, e3]
  show Q_rgh8_7 Z s_ b cb qc vf c0_ c1_ c2_ c3_ c4_ c5_ c6_ c7_ h0 n0 _ _ _
  exact ⟨rfl, N3, rfl⟩

theorem ef_rpo8_0 (m : MethodId) (x0 : Addr) (x1 : Int32) (x2 : Int32) : entryFrame m #[(.ref x0), (.int x1), (.int x2)] 4 = mkF m 0 #[.val (.ref x0), .val (.int x1), .val (.int x2), .unset] [] := by first | (simp [entryFrame, mkF, argsToLocals, Value.category]; done) | rfl
def Q_rpo8_0 (Z : State) (t_ : Int8) (s_ : Addr) (b : Addr) (cb : ClassId) (qc : Int32) (vf : Value) (c0_ : Int32) (c1_ : Int32) (c4_ : Int32) (c5_ : Int32) (c6_ : Int32) (c7_ : Int32) (h0 : Heap) (n0 : Nat) (v : Option Value) (h : Heap) (L : List Loc) : Prop := v = some (.int (1 : Int32)) ∧ Fr n0 L ∧ h = h0
set_option maxRecDepth 65536 in
set_option maxHeartbeats 40000000 in
theorem rpo8_0 (l : Launch) (Z : State) (a0 : Array Value) (hw : ∀ d ∈ tables_1, d.before a0 Z = true) (ws : List Jvm.Cond) (t_ : Int8) (s_ : Addr) (b : Addr) (cb : ClassId) (qc : Int32) (vf : Value) (c0_ : Int32) (c1_ : Int32) (c4_ : Int32) (c5_ : Int32) (c6_ : Int32) (c7_ : Int32) (h0 : Heap) (n0 : Nat) (Z0 : n0 ≤ h0.size) (E_s : Exa Z h0 s_ "java/lang/String") (F_v : Fld Z h0 s_ "java/lang/String" "value" "[B" (.ref b)) (F_c : Fld Z h0 s_ "java/lang/String" "coder" "B" (.int (0 : Int32))) (V_b : Arv Z h0 b cb .byte (8 : Int32) [(.int c0_), (.int c1_), (.int (own_hi (nar .byte t_.toInt32))), (.int (own_lo (nar .byte t_.toInt32))), (.int c4_), (.int c5_), (.int c6_), (.int c7_)] (.int (0 : Int32))) (S_q : Sta Z h0 "java/lang/String" "COMPACT_STRINGS" "Z" (.int qc)) (hq : ¬ qc = 0) (S_f : Sta Z h0 "jdk/internal/util/Preconditions" "SIOOBE_FORMATTER" "Ljava/util/function/BiFunction;" vf) (rvf : vf.isRef = true) :
    OCon l Z (⟨"com/example/crossweave/crossweave/PostgreSqlTextOfBytesPinLaw", "pairOk", "(Ljava/lang/String;IB)Z"⟩ : MethodName) method_3_code 4 (some .boolean) ws ({ frames := 4, cells := 0, slots := 0, locals := 53 } : Room) #[(.ref s_), (.int (0 : Int32)), (.int t_.toInt32)] h0 (Q_rpo8_0 Z t_ s_ b cb qc vf c0_ c1_ c4_ c5_ c6_ c7_ h0 n0) := by
  refine OCon.of (plainFor_of_name pn1) ?_
  intro p e s m below meth c s₁ Φ X0 hx hby hml hown hnm hret hlk hZ e0 hΦ
  have N0 := Fr.nil n0
  refine OGo.st (fun _ kz => castTop (ef_rpo8_0 m s_ (0 : Int32) t_.toInt32) kz) ?_
  show OG p e below Φ s₁ m 0 #[rv s_, iv 0, iv t_.toInt32, .unset] []
  refine OGo.st (fun _ kz => XS.iloadN X0.here hx rfl (hb hby d15_0) rfl kz) ?_
  show OG p e below Φ s₁ m 1 #[rv s_, iv 0, iv t_.toInt32, .unset] [(.int t_.toInt32)]
  refine OGo.st (fun _ kz => XS.sipush X0.here hx rfl (hb hby d15_1) kz) ?_
  show OG p e below Φ s₁ m 4 #[rv s_, iv 0, iv t_.toInt32, .unset] [(.int 255), (.int t_.toInt32)]
  refine OGo.st (fun _ kz => XS.iand X0.here hx rfl (hb hby d15_4) rfl kz) ?_
  show OG p e below Φ s₁ m 5 #[rv s_, iv 0, iv t_.toInt32, .unset] [(.int (t_.toInt32 &&& (255 : Int32)))]
  refine OGo.st (fun _ kz => XS.istoreN X0.here hx rfl (hb hby d15_5) rfl (l' := #[rv s_, iv 0, iv t_.toInt32, iv (t_.toInt32 &&& (255 : Int32))]) rfl kz) ?_
  show OG p e below Φ s₁ m 6 #[rv s_, iv 0, iv t_.toInt32, iv (t_.toInt32 &&& (255 : Int32))] []
  refine OGo.st (fun _ kz => XS.aloadN X0.here hx rfl (hb hby d15_6) rfl rfl kz) ?_
  show OG p e below Φ s₁ m 7 #[rv s_, iv 0, iv t_.toInt32, iv (t_.toInt32 &&& (255 : Int32))] [(.ref s_)]
  refine OGo.st (fun _ kz => XS.iconst X0.here hx rfl (hb hby d15_7) kz) ?_
  show OG p e below Φ s₁ m 8 #[rv s_, iv 0, iv t_.toInt32, iv (t_.toInt32 &&& (255 : Int32))] [(.int 2), (.ref s_)]
  refine OGo.st (fun _ kz => XS.iconst X0.here hx rfl (hb hby d15_8) kz) ?_
  show OG p e below Φ s₁ m 9 #[rv s_, iv 0, iv t_.toInt32, iv (t_.toInt32 &&& (255 : Int32))] [(.int 2), (.int 2), (.ref s_)]
  refine OGo.st (fun _ kz => XS.iloadN X0.here hx rfl (hb hby d15_9) rfl kz) ?_
  show OG p e below Φ s₁ m 10 #[rv s_, iv 0, iv t_.toInt32, iv (t_.toInt32 &&& (255 : Int32))] [(.int 0), (.int 2), (.int 2), (.ref s_)]
  refine OGo.st (fun _ kz => XS.imul X0.here hx rfl (hb hby d15_10) rfl kz) ?_
  show OG p e below Φ s₁ m 11 #[rv s_, iv 0, iv t_.toInt32, iv (t_.toInt32 &&& (255 : Int32))] [(.int 0), (.int 2), (.ref s_)]
  refine OGo.st (fun _ kz => XS.iadd X0.here hx rfl (hb hby d15_11) rfl kz) ?_
  show OG p e below Φ s₁ m 12 #[rv s_, iv 0, iv t_.toInt32, iv (t_.toInt32 &&& (255 : Int32))] [(.int 2), (.ref s_)]
  obtain ⟨_, T1, L1, X1, hQ1, st1⟩ := own_callVi X0 hx hZ hown (ow44 hw) (ow45 hw) (notFace_of_selects (args := #[]) (mvT hZ (ow47 hw))) (ow47 hw) (ow46 hw) (ow8 hw) (ow48 hw) (by decide) (rgh8_2 l Z a0 hw [] s_ b cb qc vf c0_ c1_ (own_hi (nar .byte t_.toInt32)) (own_lo (nar .byte t_.toInt32)) c4_ c5_ c6_ c7_ h0 n0 Z0 E_s F_v F_c V_b S_q hq S_f rvf) e0 (W := 0) (by decide) (by decide) (by decide) (by decide) E_s (pc := 12) (ls := #[rv s_, iv 0, iv t_.toInt32, iv (t_.toInt32 &&& (255 : Int32))]) (stk := [(.int 2), (.ref s_)]) (by rw [hml]; rfl) (argsL := [(.int 2)]) (rest := []) (lenOf pd10 rfl) rfl rfl (Nat.le_of_eq rfl) (hb hby d15_12)
  obtain ⟨rfl, Nq1, e1⟩ := hQ1
  have N1 := Fr.app N0 Nq1
  refine OGo.st st1 ?_
  show OG p e below Φ T1 m 15 #[rv s_, iv 0, iv t_.toInt32, iv (t_.toInt32 &&& (255 : Int32))] [(.int (((own_hi (nar .byte t_.toInt32)) &&& (255 : Int32)).toUInt32.toUInt16.toUInt32.toInt32))]
  refine OGo.st (fun _ kz => XS.iloadN X1.here hx rfl (hb hby d15_15) rfl kz) ?_
  show OG p e below Φ T1 m 16 #[rv s_, iv 0, iv t_.toInt32, iv (t_.toInt32 &&& (255 : Int32))] [(.int (t_.toInt32 &&& (255 : Int32))), (.int (((own_hi (nar .byte t_.toInt32)) &&& (255 : Int32)).toUInt32.toUInt16.toUInt32.toInt32))]
  refine OGo.st (fun _ kz => XS.bipush X1.here hx rfl (hb hby d15_16) kz) ?_
  show OG p e below Φ T1 m 18 #[rv s_, iv 0, iv t_.toInt32, iv (t_.toInt32 &&& (255 : Int32))] [(.int 16), (.int (t_.toInt32 &&& (255 : Int32))), (.int (((own_hi (nar .byte t_.toInt32)) &&& (255 : Int32)).toUInt32.toUInt16.toUInt32.toInt32))]
  refine OGo.st (fun _ kz => XS.idiv X1.here hx rfl (hb hby d15_18) rfl (by decide) kz) ?_
  show OG p e below Φ T1 m 19 #[rv s_, iv 0, iv t_.toInt32, iv (t_.toInt32 &&& (255 : Int32))] [(.int ((t_.toInt32 &&& (255 : Int32)) / (16 : Int32))), (.int (((own_hi (nar .byte t_.toInt32)) &&& (255 : Int32)).toUInt32.toUInt16.toUInt32.toInt32))]
  obtain ⟨_, T2, L2, X2, hQ2, st2⟩ := own_callSt X1 hx hZ hown (ow72 hw) (ow73 hw) (ow70 hw) (ow74 hw) (by decide) (rmh l Z a0 hw [] ((t_.toInt32 &&& (255 : Int32)) / (16 : Int32)) h0 n0 Z0 ) e1 (W := 1) (by decide) (by decide) (by decide) (by decide) (pc := 19) (ls := #[rv s_, iv 0, iv t_.toInt32, iv (t_.toInt32 &&& (255 : Int32))]) (stk := [(.int ((t_.toInt32 &&& (255 : Int32)) / (16 : Int32))), (.int (((own_hi (nar .byte t_.toInt32)) &&& (255 : Int32)).toUInt32.toUInt16.toUInt32.toInt32))]) (by rw [hml]; rfl) (argsL := [(.int ((t_.toInt32 &&& (255 : Int32)) / (16 : Int32)))]) (rest := [(.int (((own_hi (nar .byte t_.toInt32)) &&& (255 : Int32)).toUInt32.toUInt16.toUInt32.toInt32))]) (lenOf pd10 rfl) rfl rfl (Nat.le_of_eq rfl) (hb hby d15_19)
  obtain ⟨rfl, Nq2, e2⟩ := hQ2
  have N2 := Fr.app N1 Nq2
  refine OGo.st st2 ?_
  show OG p e below Φ T2 m 22 #[rv s_, iv 0, iv t_.toInt32, iv (t_.toInt32 &&& (255 : Int32))] [(.int (own_hex ((t_.toInt32 &&& (255 : Int32)) / (16 : Int32)))), (.int (((own_hi (nar .byte t_.toInt32)) &&& (255 : Int32)).toUInt32.toUInt16.toUInt32.toInt32))]
  refine OGo.st (fun _ kz => XS.icmpNo X2.here hx rfl (hb hby d15_22) rfl (XT.ii_ne_f (own_pair t_).1) kz) ?_
  show OG p e below Φ T2 m 25 #[rv s_, iv 0, iv t_.toInt32, iv (t_.toInt32 &&& (255 : Int32))] []
  refine OGo.st (fun _ kz => XS.aloadN X2.here hx rfl (hb hby d15_25) rfl rfl kz) ?_
  show OG p e below Φ T2 m 26 #[rv s_, iv 0, iv t_.toInt32, iv (t_.toInt32 &&& (255 : Int32))] [(.ref s_)]
  refine OGo.st (fun _ kz => XS.iconst X2.here hx rfl (hb hby d15_26) kz) ?_
  show OG p e below Φ T2 m 27 #[rv s_, iv 0, iv t_.toInt32, iv (t_.toInt32 &&& (255 : Int32))] [(.int 3), (.ref s_)]
  refine OGo.st (fun _ kz => XS.iconst X2.here hx rfl (hb hby d15_27) kz) ?_
  show OG p e below Φ T2 m 28 #[rv s_, iv 0, iv t_.toInt32, iv (t_.toInt32 &&& (255 : Int32))] [(.int 2), (.int 3), (.ref s_)]
  refine OGo.st (fun _ kz => XS.iloadN X2.here hx rfl (hb hby d15_28) rfl kz) ?_
  show OG p e below Φ T2 m 29 #[rv s_, iv 0, iv t_.toInt32, iv (t_.toInt32 &&& (255 : Int32))] [(.int 0), (.int 2), (.int 3), (.ref s_)]
  refine OGo.st (fun _ kz => XS.imul X2.here hx rfl (hb hby d15_29) rfl kz) ?_
  show OG p e below Φ T2 m 30 #[rv s_, iv 0, iv t_.toInt32, iv (t_.toInt32 &&& (255 : Int32))] [(.int 0), (.int 3), (.ref s_)]
  refine OGo.st (fun _ kz => XS.iadd X2.here hx rfl (hb hby d15_30) rfl kz) ?_
  show OG p e below Φ T2 m 31 #[rv s_, iv 0, iv t_.toInt32, iv (t_.toInt32 &&& (255 : Int32))] [(.int 3), (.ref s_)]
  obtain ⟨_, T3, L3, X3, hQ3, st3⟩ := own_callVi X2 hx hZ hown (ow44 hw) (ow45 hw) (notFace_of_selects (args := #[]) (mvT hZ (ow47 hw))) (ow47 hw) (ow46 hw) (ow8 hw) (ow48 hw) (by decide) (rgh8_3 l Z a0 hw [] s_ b cb qc vf c0_ c1_ (own_hi (nar .byte t_.toInt32)) (own_lo (nar .byte t_.toInt32)) c4_ c5_ c6_ c7_ h0 n0 Z0 E_s F_v F_c V_b S_q hq S_f rvf) e2 (W := 0) (by decide) (by decide) (by decide) (by decide) E_s (pc := 31) (ls := #[rv s_, iv 0, iv t_.toInt32, iv (t_.toInt32 &&& (255 : Int32))]) (stk := [(.int 3), (.ref s_)]) (by rw [hml]; rfl) (argsL := [(.int 3)]) (rest := []) (lenOf pd10 rfl) rfl rfl (Nat.le_of_eq rfl) (hb hby d15_31)
  obtain ⟨rfl, Nq3, e3⟩ := hQ3
  have N3 := Fr.app N2 Nq3
  refine OGo.st st3 ?_
  show OG p e below Φ T3 m 34 #[rv s_, iv 0, iv t_.toInt32, iv (t_.toInt32 &&& (255 : Int32))] [(.int (((own_lo (nar .byte t_.toInt32)) &&& (255 : Int32)).toUInt32.toUInt16.toUInt32.toInt32))]
  refine OGo.st (fun _ kz => XS.iloadN X3.here hx rfl (hb hby d15_34) rfl kz) ?_
  show OG p e below Φ T3 m 35 #[rv s_, iv 0, iv t_.toInt32, iv (t_.toInt32 &&& (255 : Int32))] [(.int (t_.toInt32 &&& (255 : Int32))), (.int (((own_lo (nar .byte t_.toInt32)) &&& (255 : Int32)).toUInt32.toUInt16.toUInt32.toInt32))]
  refine OGo.st (fun _ kz => XS.bipush X3.here hx rfl (hb hby d15_35) kz) ?_
  show OG p e below Φ T3 m 37 #[rv s_, iv 0, iv t_.toInt32, iv (t_.toInt32 &&& (255 : Int32))] [(.int 16), (.int (t_.toInt32 &&& (255 : Int32))), (.int (((own_lo (nar .byte t_.toInt32)) &&& (255 : Int32)).toUInt32.toUInt16.toUInt32.toInt32))]
  refine OGo.st (fun _ kz => iremM X3 hx rfl (hb hby d15_37) rfl (by decide) kz) ?_
  show OG p e below Φ T3 m 38 #[rv s_, iv 0, iv t_.toInt32, iv (t_.toInt32 &&& (255 : Int32))] [(.int ((t_.toInt32 &&& (255 : Int32)) % (16 : Int32))), (.int (((own_lo (nar .byte t_.toInt32)) &&& (255 : Int32)).toUInt32.toUInt16.toUInt32.toInt32))]
  obtain ⟨_, T4, L4, X4, hQ4, st4⟩ := own_callSt X3 hx hZ hown (ow72 hw) (ow73 hw) (ow70 hw) (ow74 hw) (by decide) (rmh l Z a0 hw [] ((t_.toInt32 &&& (255 : Int32)) % (16 : Int32)) h0 n0 Z0 ) e3 (W := 1) (by decide) (by decide) (by decide) (by decide) (pc := 38) (ls := #[rv s_, iv 0, iv t_.toInt32, iv (t_.toInt32 &&& (255 : Int32))]) (stk := [(.int ((t_.toInt32 &&& (255 : Int32)) % (16 : Int32))), (.int (((own_lo (nar .byte t_.toInt32)) &&& (255 : Int32)).toUInt32.toUInt16.toUInt32.toInt32))]) (by rw [hml]; rfl) (argsL := [(.int ((t_.toInt32 &&& (255 : Int32)) % (16 : Int32)))]) (rest := [(.int (((own_lo (nar .byte t_.toInt32)) &&& (255 : Int32)).toUInt32.toUInt16.toUInt32.toInt32))]) (lenOf pd10 rfl) rfl rfl (Nat.le_of_eq rfl) (hb hby d15_38)
  obtain ⟨rfl, Nq4, e4⟩ := hQ4
  have N4 := Fr.app N3 Nq4
  refine OGo.st st4 ?_
  show OG p e below Φ T4 m 41 #[rv s_, iv 0, iv t_.toInt32, iv (t_.toInt32 &&& (255 : Int32))] [(.int (own_hex ((t_.toInt32 &&& (255 : Int32)) % (16 : Int32)))), (.int (((own_lo (nar .byte t_.toInt32)) &&& (255 : Int32)).toUInt32.toUInt16.toUInt32.toInt32))]
  refine OGo.st (fun _ kz => XS.icmpNo X4.here hx rfl (hb hby d15_41) rfl (XT.ii_ne_f (own_pair t_).2) kz) ?_
  show OG p e below Φ T4 m 44 #[rv s_, iv 0, iv t_.toInt32, iv (t_.toInt32 &&& (255 : Int32))] []
  refine OGo.st (fun _ kz => XS.iconst X4.here hx rfl (hb hby d15_44) kz) ?_
  show OG p e below Φ T4 m 45 #[rv s_, iv 0, iv t_.toInt32, iv (t_.toInt32 &&& (255 : Int32))] [(.int 1)]
  refine OGo.st (fun _ kz => XS.goto X4.here hx rfl (pc0 := 45) (pc' := 49) rfl (hb hby d15_45) (by decide) (by decide) kz) ?_
  show OG p e below Φ T4 m 49 #[rv s_, iv 0, iv t_.toInt32, iv (t_.toInt32 &&& (255 : Int32))] [(.int 1)]
  refine OGo.fin X4 hlk (v := (some (.int 1))) (fun h => by rw [hret] at h; cases h) (by decide) (by decide) (fun fs hr => X4.ireturnOut hx hret rfl (by simp) (hb hby d15_49) hr) fun U eU hF => hΦ _ _ _ ?_ hF
  rw [eU, e4]
  show Q_rpo8_0 Z t_ s_ b cb qc vf c0_ c1_ c4_ c5_ c6_ c7_ h0 n0 _ _ _
  exact ⟨rfl, N4, rfl⟩

theorem ef_rpo8_1 (m : MethodId) (x0 : Addr) (x1 : Int32) (x2 : Int32) : entryFrame m #[(.ref x0), (.int x1), (.int x2)] 4 = mkF m 0 #[.val (.ref x0), .val (.int x1), .val (.int x2), .unset] [] := by first | (simp [entryFrame, mkF, argsToLocals, Value.category]; done) | rfl
def Q_rpo8_1 (Z : State) (t_ : Int8) (s_ : Addr) (b : Addr) (cb : ClassId) (qc : Int32) (vf : Value) (c0_ : Int32) (c1_ : Int32) (c2_ : Int32) (c3_ : Int32) (c6_ : Int32) (c7_ : Int32) (h0 : Heap) (n0 : Nat) (v : Option Value) (h : Heap) (L : List Loc) : Prop := v = some (.int (1 : Int32)) ∧ Fr n0 L ∧ h = h0
set_option maxRecDepth 65536 in
set_option maxHeartbeats 40000000 in
theorem rpo8_1 (l : Launch) (Z : State) (a0 : Array Value) (hw : ∀ d ∈ tables_1, d.before a0 Z = true) (ws : List Jvm.Cond) (t_ : Int8) (s_ : Addr) (b : Addr) (cb : ClassId) (qc : Int32) (vf : Value) (c0_ : Int32) (c1_ : Int32) (c2_ : Int32) (c3_ : Int32) (c6_ : Int32) (c7_ : Int32) (h0 : Heap) (n0 : Nat) (Z0 : n0 ≤ h0.size) (E_s : Exa Z h0 s_ "java/lang/String") (F_v : Fld Z h0 s_ "java/lang/String" "value" "[B" (.ref b)) (F_c : Fld Z h0 s_ "java/lang/String" "coder" "B" (.int (0 : Int32))) (V_b : Arv Z h0 b cb .byte (8 : Int32) [(.int c0_), (.int c1_), (.int c2_), (.int c3_), (.int (own_hi (nar .byte t_.toInt32))), (.int (own_lo (nar .byte t_.toInt32))), (.int c6_), (.int c7_)] (.int (0 : Int32))) (S_q : Sta Z h0 "java/lang/String" "COMPACT_STRINGS" "Z" (.int qc)) (hq : ¬ qc = 0) (S_f : Sta Z h0 "jdk/internal/util/Preconditions" "SIOOBE_FORMATTER" "Ljava/util/function/BiFunction;" vf) (rvf : vf.isRef = true) :
    OCon l Z (⟨"com/example/crossweave/crossweave/PostgreSqlTextOfBytesPinLaw", "pairOk", "(Ljava/lang/String;IB)Z"⟩ : MethodName) method_3_code 4 (some .boolean) ws ({ frames := 4, cells := 0, slots := 0, locals := 53 } : Room) #[(.ref s_), (.int (1 : Int32)), (.int t_.toInt32)] h0 (Q_rpo8_1 Z t_ s_ b cb qc vf c0_ c1_ c2_ c3_ c6_ c7_ h0 n0) := by
  refine OCon.of (plainFor_of_name pn1) ?_
  intro p e s m below meth c s₁ Φ X0 hx hby hml hown hnm hret hlk hZ e0 hΦ
  have N0 := Fr.nil n0
  refine OGo.st (fun _ kz => castTop (ef_rpo8_1 m s_ (1 : Int32) t_.toInt32) kz) ?_
  show OG p e below Φ s₁ m 0 #[rv s_, iv 1, iv t_.toInt32, .unset] []
  refine OGo.st (fun _ kz => XS.iloadN X0.here hx rfl (hb hby d15_0) rfl kz) ?_
  show OG p e below Φ s₁ m 1 #[rv s_, iv 1, iv t_.toInt32, .unset] [(.int t_.toInt32)]
  refine OGo.st (fun _ kz => XS.sipush X0.here hx rfl (hb hby d15_1) kz) ?_
  show OG p e below Φ s₁ m 4 #[rv s_, iv 1, iv t_.toInt32, .unset] [(.int 255), (.int t_.toInt32)]
  refine OGo.st (fun _ kz => XS.iand X0.here hx rfl (hb hby d15_4) rfl kz) ?_
  show OG p e below Φ s₁ m 5 #[rv s_, iv 1, iv t_.toInt32, .unset] [(.int (t_.toInt32 &&& (255 : Int32)))]
  refine OGo.st (fun _ kz => XS.istoreN X0.here hx rfl (hb hby d15_5) rfl (l' := #[rv s_, iv 1, iv t_.toInt32, iv (t_.toInt32 &&& (255 : Int32))]) rfl kz) ?_
  show OG p e below Φ s₁ m 6 #[rv s_, iv 1, iv t_.toInt32, iv (t_.toInt32 &&& (255 : Int32))] []
  refine OGo.st (fun _ kz => XS.aloadN X0.here hx rfl (hb hby d15_6) rfl rfl kz) ?_
  show OG p e below Φ s₁ m 7 #[rv s_, iv 1, iv t_.toInt32, iv (t_.toInt32 &&& (255 : Int32))] [(.ref s_)]
  refine OGo.st (fun _ kz => XS.iconst X0.here hx rfl (hb hby d15_7) kz) ?_
  show OG p e below Φ s₁ m 8 #[rv s_, iv 1, iv t_.toInt32, iv (t_.toInt32 &&& (255 : Int32))] [(.int 2), (.ref s_)]
  refine OGo.st (fun _ kz => XS.iconst X0.here hx rfl (hb hby d15_8) kz) ?_
  show OG p e below Φ s₁ m 9 #[rv s_, iv 1, iv t_.toInt32, iv (t_.toInt32 &&& (255 : Int32))] [(.int 2), (.int 2), (.ref s_)]
  refine OGo.st (fun _ kz => XS.iloadN X0.here hx rfl (hb hby d15_9) rfl kz) ?_
  show OG p e below Φ s₁ m 10 #[rv s_, iv 1, iv t_.toInt32, iv (t_.toInt32 &&& (255 : Int32))] [(.int 1), (.int 2), (.int 2), (.ref s_)]
  refine OGo.st (fun _ kz => XS.imul X0.here hx rfl (hb hby d15_10) rfl kz) ?_
  show OG p e below Φ s₁ m 11 #[rv s_, iv 1, iv t_.toInt32, iv (t_.toInt32 &&& (255 : Int32))] [(.int 2), (.int 2), (.ref s_)]
  refine OGo.st (fun _ kz => XS.iadd X0.here hx rfl (hb hby d15_11) rfl kz) ?_
  show OG p e below Φ s₁ m 12 #[rv s_, iv 1, iv t_.toInt32, iv (t_.toInt32 &&& (255 : Int32))] [(.int 4), (.ref s_)]
  obtain ⟨_, T1, L1, X1, hQ1, st1⟩ := own_callVi X0 hx hZ hown (ow44 hw) (ow45 hw) (notFace_of_selects (args := #[]) (mvT hZ (ow47 hw))) (ow47 hw) (ow46 hw) (ow8 hw) (ow48 hw) (by decide) (rgh8_4 l Z a0 hw [] s_ b cb qc vf c0_ c1_ c2_ c3_ (own_hi (nar .byte t_.toInt32)) (own_lo (nar .byte t_.toInt32)) c6_ c7_ h0 n0 Z0 E_s F_v F_c V_b S_q hq S_f rvf) e0 (W := 0) (by decide) (by decide) (by decide) (by decide) E_s (pc := 12) (ls := #[rv s_, iv 1, iv t_.toInt32, iv (t_.toInt32 &&& (255 : Int32))]) (stk := [(.int 4), (.ref s_)]) (by rw [hml]; rfl) (argsL := [(.int 4)]) (rest := []) (lenOf pd10 rfl) rfl rfl (Nat.le_of_eq rfl) (hb hby d15_12)
  obtain ⟨rfl, Nq1, e1⟩ := hQ1
  have N1 := Fr.app N0 Nq1
  refine OGo.st st1 ?_
  show OG p e below Φ T1 m 15 #[rv s_, iv 1, iv t_.toInt32, iv (t_.toInt32 &&& (255 : Int32))] [(.int (((own_hi (nar .byte t_.toInt32)) &&& (255 : Int32)).toUInt32.toUInt16.toUInt32.toInt32))]
  refine OGo.st (fun _ kz => XS.iloadN X1.here hx rfl (hb hby d15_15) rfl kz) ?_
  show OG p e below Φ T1 m 16 #[rv s_, iv 1, iv t_.toInt32, iv (t_.toInt32 &&& (255 : Int32))] [(.int (t_.toInt32 &&& (255 : Int32))), (.int (((own_hi (nar .byte t_.toInt32)) &&& (255 : Int32)).toUInt32.toUInt16.toUInt32.toInt32))]
  refine OGo.st (fun _ kz => XS.bipush X1.here hx rfl (hb hby d15_16) kz) ?_
  show OG p e below Φ T1 m 18 #[rv s_, iv 1, iv t_.toInt32, iv (t_.toInt32 &&& (255 : Int32))] [(.int 16), (.int (t_.toInt32 &&& (255 : Int32))), (.int (((own_hi (nar .byte t_.toInt32)) &&& (255 : Int32)).toUInt32.toUInt16.toUInt32.toInt32))]
  refine OGo.st (fun _ kz => XS.idiv X1.here hx rfl (hb hby d15_18) rfl (by decide) kz) ?_
  show OG p e below Φ T1 m 19 #[rv s_, iv 1, iv t_.toInt32, iv (t_.toInt32 &&& (255 : Int32))] [(.int ((t_.toInt32 &&& (255 : Int32)) / (16 : Int32))), (.int (((own_hi (nar .byte t_.toInt32)) &&& (255 : Int32)).toUInt32.toUInt16.toUInt32.toInt32))]
  obtain ⟨_, T2, L2, X2, hQ2, st2⟩ := own_callSt X1 hx hZ hown (ow72 hw) (ow73 hw) (ow70 hw) (ow74 hw) (by decide) (rmh l Z a0 hw [] ((t_.toInt32 &&& (255 : Int32)) / (16 : Int32)) h0 n0 Z0 ) e1 (W := 1) (by decide) (by decide) (by decide) (by decide) (pc := 19) (ls := #[rv s_, iv 1, iv t_.toInt32, iv (t_.toInt32 &&& (255 : Int32))]) (stk := [(.int ((t_.toInt32 &&& (255 : Int32)) / (16 : Int32))), (.int (((own_hi (nar .byte t_.toInt32)) &&& (255 : Int32)).toUInt32.toUInt16.toUInt32.toInt32))]) (by rw [hml]; rfl) (argsL := [(.int ((t_.toInt32 &&& (255 : Int32)) / (16 : Int32)))]) (rest := [(.int (((own_hi (nar .byte t_.toInt32)) &&& (255 : Int32)).toUInt32.toUInt16.toUInt32.toInt32))]) (lenOf pd10 rfl) rfl rfl (Nat.le_of_eq rfl) (hb hby d15_19)
  obtain ⟨rfl, Nq2, e2⟩ := hQ2
  have N2 := Fr.app N1 Nq2
  refine OGo.st st2 ?_
  show OG p e below Φ T2 m 22 #[rv s_, iv 1, iv t_.toInt32, iv (t_.toInt32 &&& (255 : Int32))] [(.int (own_hex ((t_.toInt32 &&& (255 : Int32)) / (16 : Int32)))), (.int (((own_hi (nar .byte t_.toInt32)) &&& (255 : Int32)).toUInt32.toUInt16.toUInt32.toInt32))]
  refine OGo.st (fun _ kz => XS.icmpNo X2.here hx rfl (hb hby d15_22) rfl (XT.ii_ne_f (own_pair t_).1) kz) ?_
  show OG p e below Φ T2 m 25 #[rv s_, iv 1, iv t_.toInt32, iv (t_.toInt32 &&& (255 : Int32))] []
  refine OGo.st (fun _ kz => XS.aloadN X2.here hx rfl (hb hby d15_25) rfl rfl kz) ?_
  show OG p e below Φ T2 m 26 #[rv s_, iv 1, iv t_.toInt32, iv (t_.toInt32 &&& (255 : Int32))] [(.ref s_)]
  refine OGo.st (fun _ kz => XS.iconst X2.here hx rfl (hb hby d15_26) kz) ?_
  show OG p e below Φ T2 m 27 #[rv s_, iv 1, iv t_.toInt32, iv (t_.toInt32 &&& (255 : Int32))] [(.int 3), (.ref s_)]
  refine OGo.st (fun _ kz => XS.iconst X2.here hx rfl (hb hby d15_27) kz) ?_
  show OG p e below Φ T2 m 28 #[rv s_, iv 1, iv t_.toInt32, iv (t_.toInt32 &&& (255 : Int32))] [(.int 2), (.int 3), (.ref s_)]
  refine OGo.st (fun _ kz => XS.iloadN X2.here hx rfl (hb hby d15_28) rfl kz) ?_
  show OG p e below Φ T2 m 29 #[rv s_, iv 1, iv t_.toInt32, iv (t_.toInt32 &&& (255 : Int32))] [(.int 1), (.int 2), (.int 3), (.ref s_)]
  refine OGo.st (fun _ kz => XS.imul X2.here hx rfl (hb hby d15_29) rfl kz) ?_
  show OG p e below Φ T2 m 30 #[rv s_, iv 1, iv t_.toInt32, iv (t_.toInt32 &&& (255 : Int32))] [(.int 2), (.int 3), (.ref s_)]
  refine OGo.st (fun _ kz => XS.iadd X2.here hx rfl (hb hby d15_30) rfl kz) ?_
  show OG p e below Φ T2 m 31 #[rv s_, iv 1, iv t_.toInt32, iv (t_.toInt32 &&& (255 : Int32))] [(.int 5), (.ref s_)]
  obtain ⟨_, T3, L3, X3, hQ3, st3⟩ := own_callVi X2 hx hZ hown (ow44 hw) (ow45 hw) (notFace_of_selects (args := #[]) (mvT hZ (ow47 hw))) (ow47 hw) (ow46 hw) (ow8 hw) (ow48 hw) (by decide) (rgh8_5 l Z a0 hw [] s_ b cb qc vf c0_ c1_ c2_ c3_ (own_hi (nar .byte t_.toInt32)) (own_lo (nar .byte t_.toInt32)) c6_ c7_ h0 n0 Z0 E_s F_v F_c V_b S_q hq S_f rvf) e2 (W := 0) (by decide) (by decide) (by decide) (by decide) E_s (pc := 31) (ls := #[rv s_, iv 1, iv t_.toInt32, iv (t_.toInt32 &&& (255 : Int32))]) (stk := [(.int 5), (.ref s_)]) (by rw [hml]; rfl) (argsL := [(.int 5)]) (rest := []) (lenOf pd10 rfl) rfl rfl (Nat.le_of_eq rfl) (hb hby d15_31)
  obtain ⟨rfl, Nq3, e3⟩ := hQ3
  have N3 := Fr.app N2 Nq3
  refine OGo.st st3 ?_
  show OG p e below Φ T3 m 34 #[rv s_, iv 1, iv t_.toInt32, iv (t_.toInt32 &&& (255 : Int32))] [(.int (((own_lo (nar .byte t_.toInt32)) &&& (255 : Int32)).toUInt32.toUInt16.toUInt32.toInt32))]
  refine OGo.st (fun _ kz => XS.iloadN X3.here hx rfl (hb hby d15_34) rfl kz) ?_
  show OG p e below Φ T3 m 35 #[rv s_, iv 1, iv t_.toInt32, iv (t_.toInt32 &&& (255 : Int32))] [(.int (t_.toInt32 &&& (255 : Int32))), (.int (((own_lo (nar .byte t_.toInt32)) &&& (255 : Int32)).toUInt32.toUInt16.toUInt32.toInt32))]
  refine OGo.st (fun _ kz => XS.bipush X3.here hx rfl (hb hby d15_35) kz) ?_
  show OG p e below Φ T3 m 37 #[rv s_, iv 1, iv t_.toInt32, iv (t_.toInt32 &&& (255 : Int32))] [(.int 16), (.int (t_.toInt32 &&& (255 : Int32))), (.int (((own_lo (nar .byte t_.toInt32)) &&& (255 : Int32)).toUInt32.toUInt16.toUInt32.toInt32))]
  refine OGo.st (fun _ kz => iremM X3 hx rfl (hb hby d15_37) rfl (by decide) kz) ?_
  show OG p e below Φ T3 m 38 #[rv s_, iv 1, iv t_.toInt32, iv (t_.toInt32 &&& (255 : Int32))] [(.int ((t_.toInt32 &&& (255 : Int32)) % (16 : Int32))), (.int (((own_lo (nar .byte t_.toInt32)) &&& (255 : Int32)).toUInt32.toUInt16.toUInt32.toInt32))]
  obtain ⟨_, T4, L4, X4, hQ4, st4⟩ := own_callSt X3 hx hZ hown (ow72 hw) (ow73 hw) (ow70 hw) (ow74 hw) (by decide) (rmh l Z a0 hw [] ((t_.toInt32 &&& (255 : Int32)) % (16 : Int32)) h0 n0 Z0 ) e3 (W := 1) (by decide) (by decide) (by decide) (by decide) (pc := 38) (ls := #[rv s_, iv 1, iv t_.toInt32, iv (t_.toInt32 &&& (255 : Int32))]) (stk := [(.int ((t_.toInt32 &&& (255 : Int32)) % (16 : Int32))), (.int (((own_lo (nar .byte t_.toInt32)) &&& (255 : Int32)).toUInt32.toUInt16.toUInt32.toInt32))]) (by rw [hml]; rfl) (argsL := [(.int ((t_.toInt32 &&& (255 : Int32)) % (16 : Int32)))]) (rest := [(.int (((own_lo (nar .byte t_.toInt32)) &&& (255 : Int32)).toUInt32.toUInt16.toUInt32.toInt32))]) (lenOf pd10 rfl) rfl rfl (Nat.le_of_eq rfl) (hb hby d15_38)
  obtain ⟨rfl, Nq4, e4⟩ := hQ4
  have N4 := Fr.app N3 Nq4
  refine OGo.st st4 ?_
  show OG p e below Φ T4 m 41 #[rv s_, iv 1, iv t_.toInt32, iv (t_.toInt32 &&& (255 : Int32))] [(.int (own_hex ((t_.toInt32 &&& (255 : Int32)) % (16 : Int32)))), (.int (((own_lo (nar .byte t_.toInt32)) &&& (255 : Int32)).toUInt32.toUInt16.toUInt32.toInt32))]
  refine OGo.st (fun _ kz => XS.icmpNo X4.here hx rfl (hb hby d15_41) rfl (XT.ii_ne_f (own_pair t_).2) kz) ?_
  show OG p e below Φ T4 m 44 #[rv s_, iv 1, iv t_.toInt32, iv (t_.toInt32 &&& (255 : Int32))] []
  refine OGo.st (fun _ kz => XS.iconst X4.here hx rfl (hb hby d15_44) kz) ?_
  show OG p e below Φ T4 m 45 #[rv s_, iv 1, iv t_.toInt32, iv (t_.toInt32 &&& (255 : Int32))] [(.int 1)]
  refine OGo.st (fun _ kz => XS.goto X4.here hx rfl (pc0 := 45) (pc' := 49) rfl (hb hby d15_45) (by decide) (by decide) kz) ?_
  show OG p e below Φ T4 m 49 #[rv s_, iv 1, iv t_.toInt32, iv (t_.toInt32 &&& (255 : Int32))] [(.int 1)]
  refine OGo.fin X4 hlk (v := (some (.int 1))) (fun h => by rw [hret] at h; cases h) (by decide) (by decide) (fun fs hr => X4.ireturnOut hx hret rfl (by simp) (hb hby d15_49) hr) fun U eU hF => hΦ _ _ _ ?_ hF
  rw [eU, e4]
  show Q_rpo8_1 Z t_ s_ b cb qc vf c0_ c1_ c2_ c3_ c6_ c7_ h0 n0 _ _ _
  exact ⟨rfl, N4, rfl⟩

theorem ef_rpo8_2 (m : MethodId) (x0 : Addr) (x1 : Int32) (x2 : Int32) : entryFrame m #[(.ref x0), (.int x1), (.int x2)] 4 = mkF m 0 #[.val (.ref x0), .val (.int x1), .val (.int x2), .unset] [] := by first | (simp [entryFrame, mkF, argsToLocals, Value.category]; done) | rfl
def Q_rpo8_2 (Z : State) (t_ : Int8) (s_ : Addr) (b : Addr) (cb : ClassId) (qc : Int32) (vf : Value) (c0_ : Int32) (c1_ : Int32) (c2_ : Int32) (c3_ : Int32) (c4_ : Int32) (c5_ : Int32) (h0 : Heap) (n0 : Nat) (v : Option Value) (h : Heap) (L : List Loc) : Prop := v = some (.int (1 : Int32)) ∧ Fr n0 L ∧ h = h0
set_option maxRecDepth 65536 in
set_option maxHeartbeats 40000000 in
theorem rpo8_2 (l : Launch) (Z : State) (a0 : Array Value) (hw : ∀ d ∈ tables_1, d.before a0 Z = true) (ws : List Jvm.Cond) (t_ : Int8) (s_ : Addr) (b : Addr) (cb : ClassId) (qc : Int32) (vf : Value) (c0_ : Int32) (c1_ : Int32) (c2_ : Int32) (c3_ : Int32) (c4_ : Int32) (c5_ : Int32) (h0 : Heap) (n0 : Nat) (Z0 : n0 ≤ h0.size) (E_s : Exa Z h0 s_ "java/lang/String") (F_v : Fld Z h0 s_ "java/lang/String" "value" "[B" (.ref b)) (F_c : Fld Z h0 s_ "java/lang/String" "coder" "B" (.int (0 : Int32))) (V_b : Arv Z h0 b cb .byte (8 : Int32) [(.int c0_), (.int c1_), (.int c2_), (.int c3_), (.int c4_), (.int c5_), (.int (own_hi (nar .byte t_.toInt32))), (.int (own_lo (nar .byte t_.toInt32)))] (.int (0 : Int32))) (S_q : Sta Z h0 "java/lang/String" "COMPACT_STRINGS" "Z" (.int qc)) (hq : ¬ qc = 0) (S_f : Sta Z h0 "jdk/internal/util/Preconditions" "SIOOBE_FORMATTER" "Ljava/util/function/BiFunction;" vf) (rvf : vf.isRef = true) :
    OCon l Z (⟨"com/example/crossweave/crossweave/PostgreSqlTextOfBytesPinLaw", "pairOk", "(Ljava/lang/String;IB)Z"⟩ : MethodName) method_3_code 4 (some .boolean) ws ({ frames := 4, cells := 0, slots := 0, locals := 53 } : Room) #[(.ref s_), (.int (2 : Int32)), (.int t_.toInt32)] h0 (Q_rpo8_2 Z t_ s_ b cb qc vf c0_ c1_ c2_ c3_ c4_ c5_ h0 n0) := by
  refine OCon.of (plainFor_of_name pn1) ?_
  intro p e s m below meth c s₁ Φ X0 hx hby hml hown hnm hret hlk hZ e0 hΦ
  have N0 := Fr.nil n0
  refine OGo.st (fun _ kz => castTop (ef_rpo8_2 m s_ (2 : Int32) t_.toInt32) kz) ?_
  show OG p e below Φ s₁ m 0 #[rv s_, iv 2, iv t_.toInt32, .unset] []
  refine OGo.st (fun _ kz => XS.iloadN X0.here hx rfl (hb hby d15_0) rfl kz) ?_
  show OG p e below Φ s₁ m 1 #[rv s_, iv 2, iv t_.toInt32, .unset] [(.int t_.toInt32)]
  refine OGo.st (fun _ kz => XS.sipush X0.here hx rfl (hb hby d15_1) kz) ?_
  show OG p e below Φ s₁ m 4 #[rv s_, iv 2, iv t_.toInt32, .unset] [(.int 255), (.int t_.toInt32)]
  refine OGo.st (fun _ kz => XS.iand X0.here hx rfl (hb hby d15_4) rfl kz) ?_
  show OG p e below Φ s₁ m 5 #[rv s_, iv 2, iv t_.toInt32, .unset] [(.int (t_.toInt32 &&& (255 : Int32)))]
  refine OGo.st (fun _ kz => XS.istoreN X0.here hx rfl (hb hby d15_5) rfl (l' := #[rv s_, iv 2, iv t_.toInt32, iv (t_.toInt32 &&& (255 : Int32))]) rfl kz) ?_
  show OG p e below Φ s₁ m 6 #[rv s_, iv 2, iv t_.toInt32, iv (t_.toInt32 &&& (255 : Int32))] []
  refine OGo.st (fun _ kz => XS.aloadN X0.here hx rfl (hb hby d15_6) rfl rfl kz) ?_
  show OG p e below Φ s₁ m 7 #[rv s_, iv 2, iv t_.toInt32, iv (t_.toInt32 &&& (255 : Int32))] [(.ref s_)]
  refine OGo.st (fun _ kz => XS.iconst X0.here hx rfl (hb hby d15_7) kz) ?_
  show OG p e below Φ s₁ m 8 #[rv s_, iv 2, iv t_.toInt32, iv (t_.toInt32 &&& (255 : Int32))] [(.int 2), (.ref s_)]
  refine OGo.st (fun _ kz => XS.iconst X0.here hx rfl (hb hby d15_8) kz) ?_
  show OG p e below Φ s₁ m 9 #[rv s_, iv 2, iv t_.toInt32, iv (t_.toInt32 &&& (255 : Int32))] [(.int 2), (.int 2), (.ref s_)]
  refine OGo.st (fun _ kz => XS.iloadN X0.here hx rfl (hb hby d15_9) rfl kz) ?_
  show OG p e below Φ s₁ m 10 #[rv s_, iv 2, iv t_.toInt32, iv (t_.toInt32 &&& (255 : Int32))] [(.int 2), (.int 2), (.int 2), (.ref s_)]
  refine OGo.st (fun _ kz => XS.imul X0.here hx rfl (hb hby d15_10) rfl kz) ?_
  show OG p e below Φ s₁ m 11 #[rv s_, iv 2, iv t_.toInt32, iv (t_.toInt32 &&& (255 : Int32))] [(.int 4), (.int 2), (.ref s_)]
  refine OGo.st (fun _ kz => XS.iadd X0.here hx rfl (hb hby d15_11) rfl kz) ?_
  show OG p e below Φ s₁ m 12 #[rv s_, iv 2, iv t_.toInt32, iv (t_.toInt32 &&& (255 : Int32))] [(.int 6), (.ref s_)]
  obtain ⟨_, T1, L1, X1, hQ1, st1⟩ := own_callVi X0 hx hZ hown (ow44 hw) (ow45 hw) (notFace_of_selects (args := #[]) (mvT hZ (ow47 hw))) (ow47 hw) (ow46 hw) (ow8 hw) (ow48 hw) (by decide) (rgh8_6 l Z a0 hw [] s_ b cb qc vf c0_ c1_ c2_ c3_ c4_ c5_ (own_hi (nar .byte t_.toInt32)) (own_lo (nar .byte t_.toInt32)) h0 n0 Z0 E_s F_v F_c V_b S_q hq S_f rvf) e0 (W := 0) (by decide) (by decide) (by decide) (by decide) E_s (pc := 12) (ls := #[rv s_, iv 2, iv t_.toInt32, iv (t_.toInt32 &&& (255 : Int32))]) (stk := [(.int 6), (.ref s_)]) (by rw [hml]; rfl) (argsL := [(.int 6)]) (rest := []) (lenOf pd10 rfl) rfl rfl (Nat.le_of_eq rfl) (hb hby d15_12)
  obtain ⟨rfl, Nq1, e1⟩ := hQ1
  have N1 := Fr.app N0 Nq1
  refine OGo.st st1 ?_
  show OG p e below Φ T1 m 15 #[rv s_, iv 2, iv t_.toInt32, iv (t_.toInt32 &&& (255 : Int32))] [(.int (((own_hi (nar .byte t_.toInt32)) &&& (255 : Int32)).toUInt32.toUInt16.toUInt32.toInt32))]
  refine OGo.st (fun _ kz => XS.iloadN X1.here hx rfl (hb hby d15_15) rfl kz) ?_
  show OG p e below Φ T1 m 16 #[rv s_, iv 2, iv t_.toInt32, iv (t_.toInt32 &&& (255 : Int32))] [(.int (t_.toInt32 &&& (255 : Int32))), (.int (((own_hi (nar .byte t_.toInt32)) &&& (255 : Int32)).toUInt32.toUInt16.toUInt32.toInt32))]
  refine OGo.st (fun _ kz => XS.bipush X1.here hx rfl (hb hby d15_16) kz) ?_
  show OG p e below Φ T1 m 18 #[rv s_, iv 2, iv t_.toInt32, iv (t_.toInt32 &&& (255 : Int32))] [(.int 16), (.int (t_.toInt32 &&& (255 : Int32))), (.int (((own_hi (nar .byte t_.toInt32)) &&& (255 : Int32)).toUInt32.toUInt16.toUInt32.toInt32))]
  refine OGo.st (fun _ kz => XS.idiv X1.here hx rfl (hb hby d15_18) rfl (by decide) kz) ?_
  show OG p e below Φ T1 m 19 #[rv s_, iv 2, iv t_.toInt32, iv (t_.toInt32 &&& (255 : Int32))] [(.int ((t_.toInt32 &&& (255 : Int32)) / (16 : Int32))), (.int (((own_hi (nar .byte t_.toInt32)) &&& (255 : Int32)).toUInt32.toUInt16.toUInt32.toInt32))]
  obtain ⟨_, T2, L2, X2, hQ2, st2⟩ := own_callSt X1 hx hZ hown (ow72 hw) (ow73 hw) (ow70 hw) (ow74 hw) (by decide) (rmh l Z a0 hw [] ((t_.toInt32 &&& (255 : Int32)) / (16 : Int32)) h0 n0 Z0 ) e1 (W := 1) (by decide) (by decide) (by decide) (by decide) (pc := 19) (ls := #[rv s_, iv 2, iv t_.toInt32, iv (t_.toInt32 &&& (255 : Int32))]) (stk := [(.int ((t_.toInt32 &&& (255 : Int32)) / (16 : Int32))), (.int (((own_hi (nar .byte t_.toInt32)) &&& (255 : Int32)).toUInt32.toUInt16.toUInt32.toInt32))]) (by rw [hml]; rfl) (argsL := [(.int ((t_.toInt32 &&& (255 : Int32)) / (16 : Int32)))]) (rest := [(.int (((own_hi (nar .byte t_.toInt32)) &&& (255 : Int32)).toUInt32.toUInt16.toUInt32.toInt32))]) (lenOf pd10 rfl) rfl rfl (Nat.le_of_eq rfl) (hb hby d15_19)
  obtain ⟨rfl, Nq2, e2⟩ := hQ2
  have N2 := Fr.app N1 Nq2
  refine OGo.st st2 ?_
  show OG p e below Φ T2 m 22 #[rv s_, iv 2, iv t_.toInt32, iv (t_.toInt32 &&& (255 : Int32))] [(.int (own_hex ((t_.toInt32 &&& (255 : Int32)) / (16 : Int32)))), (.int (((own_hi (nar .byte t_.toInt32)) &&& (255 : Int32)).toUInt32.toUInt16.toUInt32.toInt32))]
  refine OGo.st (fun _ kz => XS.icmpNo X2.here hx rfl (hb hby d15_22) rfl (XT.ii_ne_f (own_pair t_).1) kz) ?_
  show OG p e below Φ T2 m 25 #[rv s_, iv 2, iv t_.toInt32, iv (t_.toInt32 &&& (255 : Int32))] []
  refine OGo.st (fun _ kz => XS.aloadN X2.here hx rfl (hb hby d15_25) rfl rfl kz) ?_
  show OG p e below Φ T2 m 26 #[rv s_, iv 2, iv t_.toInt32, iv (t_.toInt32 &&& (255 : Int32))] [(.ref s_)]
  refine OGo.st (fun _ kz => XS.iconst X2.here hx rfl (hb hby d15_26) kz) ?_
  show OG p e below Φ T2 m 27 #[rv s_, iv 2, iv t_.toInt32, iv (t_.toInt32 &&& (255 : Int32))] [(.int 3), (.ref s_)]
  refine OGo.st (fun _ kz => XS.iconst X2.here hx rfl (hb hby d15_27) kz) ?_
  show OG p e below Φ T2 m 28 #[rv s_, iv 2, iv t_.toInt32, iv (t_.toInt32 &&& (255 : Int32))] [(.int 2), (.int 3), (.ref s_)]
  refine OGo.st (fun _ kz => XS.iloadN X2.here hx rfl (hb hby d15_28) rfl kz) ?_
  show OG p e below Φ T2 m 29 #[rv s_, iv 2, iv t_.toInt32, iv (t_.toInt32 &&& (255 : Int32))] [(.int 2), (.int 2), (.int 3), (.ref s_)]
  refine OGo.st (fun _ kz => XS.imul X2.here hx rfl (hb hby d15_29) rfl kz) ?_
  show OG p e below Φ T2 m 30 #[rv s_, iv 2, iv t_.toInt32, iv (t_.toInt32 &&& (255 : Int32))] [(.int 4), (.int 3), (.ref s_)]
  refine OGo.st (fun _ kz => XS.iadd X2.here hx rfl (hb hby d15_30) rfl kz) ?_
  show OG p e below Φ T2 m 31 #[rv s_, iv 2, iv t_.toInt32, iv (t_.toInt32 &&& (255 : Int32))] [(.int 7), (.ref s_)]
  obtain ⟨_, T3, L3, X3, hQ3, st3⟩ := own_callVi X2 hx hZ hown (ow44 hw) (ow45 hw) (notFace_of_selects (args := #[]) (mvT hZ (ow47 hw))) (ow47 hw) (ow46 hw) (ow8 hw) (ow48 hw) (by decide) (rgh8_7 l Z a0 hw [] s_ b cb qc vf c0_ c1_ c2_ c3_ c4_ c5_ (own_hi (nar .byte t_.toInt32)) (own_lo (nar .byte t_.toInt32)) h0 n0 Z0 E_s F_v F_c V_b S_q hq S_f rvf) e2 (W := 0) (by decide) (by decide) (by decide) (by decide) E_s (pc := 31) (ls := #[rv s_, iv 2, iv t_.toInt32, iv (t_.toInt32 &&& (255 : Int32))]) (stk := [(.int 7), (.ref s_)]) (by rw [hml]; rfl) (argsL := [(.int 7)]) (rest := []) (lenOf pd10 rfl) rfl rfl (Nat.le_of_eq rfl) (hb hby d15_31)
  obtain ⟨rfl, Nq3, e3⟩ := hQ3
  have N3 := Fr.app N2 Nq3
  refine OGo.st st3 ?_
  show OG p e below Φ T3 m 34 #[rv s_, iv 2, iv t_.toInt32, iv (t_.toInt32 &&& (255 : Int32))] [(.int (((own_lo (nar .byte t_.toInt32)) &&& (255 : Int32)).toUInt32.toUInt16.toUInt32.toInt32))]
  refine OGo.st (fun _ kz => XS.iloadN X3.here hx rfl (hb hby d15_34) rfl kz) ?_
  show OG p e below Φ T3 m 35 #[rv s_, iv 2, iv t_.toInt32, iv (t_.toInt32 &&& (255 : Int32))] [(.int (t_.toInt32 &&& (255 : Int32))), (.int (((own_lo (nar .byte t_.toInt32)) &&& (255 : Int32)).toUInt32.toUInt16.toUInt32.toInt32))]
  refine OGo.st (fun _ kz => XS.bipush X3.here hx rfl (hb hby d15_35) kz) ?_
  show OG p e below Φ T3 m 37 #[rv s_, iv 2, iv t_.toInt32, iv (t_.toInt32 &&& (255 : Int32))] [(.int 16), (.int (t_.toInt32 &&& (255 : Int32))), (.int (((own_lo (nar .byte t_.toInt32)) &&& (255 : Int32)).toUInt32.toUInt16.toUInt32.toInt32))]
  refine OGo.st (fun _ kz => iremM X3 hx rfl (hb hby d15_37) rfl (by decide) kz) ?_
  show OG p e below Φ T3 m 38 #[rv s_, iv 2, iv t_.toInt32, iv (t_.toInt32 &&& (255 : Int32))] [(.int ((t_.toInt32 &&& (255 : Int32)) % (16 : Int32))), (.int (((own_lo (nar .byte t_.toInt32)) &&& (255 : Int32)).toUInt32.toUInt16.toUInt32.toInt32))]
  obtain ⟨_, T4, L4, X4, hQ4, st4⟩ := own_callSt X3 hx hZ hown (ow72 hw) (ow73 hw) (ow70 hw) (ow74 hw) (by decide) (rmh l Z a0 hw [] ((t_.toInt32 &&& (255 : Int32)) % (16 : Int32)) h0 n0 Z0 ) e3 (W := 1) (by decide) (by decide) (by decide) (by decide) (pc := 38) (ls := #[rv s_, iv 2, iv t_.toInt32, iv (t_.toInt32 &&& (255 : Int32))]) (stk := [(.int ((t_.toInt32 &&& (255 : Int32)) % (16 : Int32))), (.int (((own_lo (nar .byte t_.toInt32)) &&& (255 : Int32)).toUInt32.toUInt16.toUInt32.toInt32))]) (by rw [hml]; rfl) (argsL := [(.int ((t_.toInt32 &&& (255 : Int32)) % (16 : Int32)))]) (rest := [(.int (((own_lo (nar .byte t_.toInt32)) &&& (255 : Int32)).toUInt32.toUInt16.toUInt32.toInt32))]) (lenOf pd10 rfl) rfl rfl (Nat.le_of_eq rfl) (hb hby d15_38)
  obtain ⟨rfl, Nq4, e4⟩ := hQ4
  have N4 := Fr.app N3 Nq4
  refine OGo.st st4 ?_
  show OG p e below Φ T4 m 41 #[rv s_, iv 2, iv t_.toInt32, iv (t_.toInt32 &&& (255 : Int32))] [(.int (own_hex ((t_.toInt32 &&& (255 : Int32)) % (16 : Int32)))), (.int (((own_lo (nar .byte t_.toInt32)) &&& (255 : Int32)).toUInt32.toUInt16.toUInt32.toInt32))]
  refine OGo.st (fun _ kz => XS.icmpNo X4.here hx rfl (hb hby d15_41) rfl (XT.ii_ne_f (own_pair t_).2) kz) ?_
  show OG p e below Φ T4 m 44 #[rv s_, iv 2, iv t_.toInt32, iv (t_.toInt32 &&& (255 : Int32))] []
  refine OGo.st (fun _ kz => XS.iconst X4.here hx rfl (hb hby d15_44) kz) ?_
  show OG p e below Φ T4 m 45 #[rv s_, iv 2, iv t_.toInt32, iv (t_.toInt32 &&& (255 : Int32))] [(.int 1)]
  refine OGo.st (fun _ kz => XS.goto X4.here hx rfl (pc0 := 45) (pc' := 49) rfl (hb hby d15_45) (by decide) (by decide) kz) ?_
  show OG p e below Φ T4 m 49 #[rv s_, iv 2, iv t_.toInt32, iv (t_.toInt32 &&& (255 : Int32))] [(.int 1)]
  refine OGo.fin X4 hlk (v := (some (.int 1))) (fun h => by rw [hret] at h; cases h) (by decide) (by decide) (fun fs hr => X4.ireturnOut hx hret rfl (by simp) (hb hby d15_49) hr) fun U eU hF => hΦ _ _ _ ?_ hF
  rw [eU, e4]
  show Q_rpo8_2 Z t_ s_ b cb qc vf c0_ c1_ c2_ c3_ c4_ c5_ h0 n0 _ _ _
  exact ⟨rfl, N4, rfl⟩

theorem pd11 : parseMethodDescriptor "([B)Ljava/lang/String;" = some ⟨[(.array .byte)], some (.object "java/lang/String")⟩ := by decide +kernel
theorem pd12 : parseMethodDescriptor "()I" = some ⟨[], some .int⟩ := by decide +kernel
theorem pd13 : parseMethodDescriptor "(Ljava/lang/String;IB)Z" = some ⟨[(.object "java/lang/String"), .int, .byte], some .boolean⟩ := by decide +kernel
theorem ef_rm0 (m : MethodId) (x0 : Int32) (x1 : Int32) (x2 : Int32) (x3 : Int32) : entryFrame m #[(.int x0), (.int x1), (.int x2), (.int x3)] maxLocals = mkF m 0 #[.val (.int x0), .val (.int x1), .val (.int x2), .val (.int x3), .unset, .unset, .unset, .unset, .unset, .unset, .unset] [] := by first | (simp [entryFrame, mkF, argsToLocals, Value.category, maxLocals]; done) | rfl
def Q_rm0 (Z : State) (xn : Int32) (xa : Int32) (xb : Int32) (xc : Int32) (ah : Addr) (ch : ClassId) (qc : Int32) (vf : Value) (h0 : Heap) (n0 : Nat) (v : Option Value) (h : Heap) (L : List Loc) : Prop := v = some (.int (1 : Int32)) ∧ Fr n0 L
set_option maxRecDepth 65536 in
set_option maxHeartbeats 40000000 in
theorem rm0 (l : Launch) (Z : State) (a0 : Array Value) (hw : ∀ d ∈ tables_1, d.before a0 Z = true) (ws : List Jvm.Cond) (xn : Int32) (xa : Int32) (xb : Int32) (xc : Int32) (ah : Addr) (ch : ClassId) (qc : Int32) (vf : Value) (h0 : Heap) (n0 : Nat) (Z0 : n0 ≤ h0.size) (O_0 : Old Z n0 h0) (V_h : Arv Z h0 ah ch .char (16 : Int32) own_hxl (.int (0 : Int32))) (S_h : Sta Z Z.heap "com/example/crossweave/crossweave/PostgreSqlText" "HEX_DIGITS" "[C" (.ref ah)) (S_cs : Sta Z Z.heap "java/lang/String" "COMPACT_STRINGS" "Z" (.int qc)) (hq : ¬ qc = 0) (S_si : Sta Z Z.heap "jdk/internal/util/Preconditions" "SIOOBE_FORMATTER" "Ljava/util/function/BiFunction;" vf) (rvf : vf.isRef = true) :
    OCon l Z x code maxLocals ret ws room_1 #[(.int xn), (.int xa), (.int xb), (.int xc)] h0 (Q_rm0 Z xn xa xb xc ah ch qc vf h0 n0) := by
  refine OCon.of (plainFor_of_name pn1) ?_
  intro p e s m below meth c s₁ Φ X0 hx hby hml hown hnm hret hlk hZ e0 hΦ
  have N0 := Fr.nil n0
  refine OGo.st (fun _ kz => castTop (ef_rm0 m xn xa xb xc) kz) ?_
  show OG p e below Φ s₁ m 0 #[iv xn, iv xa, iv xb, iv xc, .unset, .unset, .unset, .unset, .unset, .unset, .unset] []
  refine OGo.st (fun _ kz => XS.iloadN X0.here hx rfl (hb hby at_0) rfl kz) ?_
  show OG p e below Φ s₁ m 1 #[iv xn, iv xa, iv xb, iv xc, .unset, .unset, .unset, .unset, .unset, .unset, .unset] [(.int xn)]
  refine OGo.st (fun _ kz => XS.iconst X0.here hx rfl (hb hby at_1) kz) ?_
  show OG p e below Φ s₁ m 2 #[iv xn, iv xa, iv xb, iv xc, .unset, .unset, .unset, .unset, .unset, .unset, .unset] [(.int 3), (.int xn)]
  refine OGo.st (fun _ kz => XS.iand X0.here hx rfl (hb hby at_2) rfl kz) ?_
  show OG p e below Φ s₁ m 3 #[iv xn, iv xa, iv xb, iv xc, .unset, .unset, .unset, .unset, .unset, .unset, .unset] [(.int (xn &&& (3 : Int32)))]
  refine OGo.st (fun _ kz => XS.istore X0.here hx rfl (hb hby at_3) rfl (l' := #[iv xn, iv xa, iv xb, iv xc, iv (xn &&& (3 : Int32)), .unset, .unset, .unset, .unset, .unset, .unset]) rfl kz) ?_
  show OG p e below Φ s₁ m 5 #[iv xn, iv xa, iv xb, iv xc, iv (xn &&& (3 : Int32)), .unset, .unset, .unset, .unset, .unset, .unset] []
  refine OGo.st (fun _ kz => XS.iloadN X0.here hx rfl (hb hby at_5) rfl kz) ?_
  show OG p e below Φ s₁ m 6 #[iv xn, iv xa, iv xb, iv xc, iv (xn &&& (3 : Int32)), .unset, .unset, .unset, .unset, .unset, .unset] [(.int xa)]
  refine OGo.st (fun _ kz => XT.i2b X0.here hx rfl (hb hby at_6) rfl kz) ?_
  show OG p e below Φ s₁ m 7 #[iv xn, iv xa, iv xb, iv xc, iv (xn &&& (3 : Int32)), .unset, .unset, .unset, .unset, .unset, .unset] [(.int (xa.toInt8.toInt32))]
  refine OGo.st (fun _ kz => XS.istore X0.here hx rfl (hb hby at_7) rfl (l' := #[iv xn, iv xa, iv xb, iv xc, iv (xn &&& (3 : Int32)), iv (xa.toInt8.toInt32), .unset, .unset, .unset, .unset, .unset]) rfl kz) ?_
  show OG p e below Φ s₁ m 9 #[iv xn, iv xa, iv xb, iv xc, iv (xn &&& (3 : Int32)), iv (xa.toInt8.toInt32), .unset, .unset, .unset, .unset, .unset] []
  refine OGo.st (fun _ kz => XS.iloadN X0.here hx rfl (hb hby at_9) rfl kz) ?_
  show OG p e below Φ s₁ m 10 #[iv xn, iv xa, iv xb, iv xc, iv (xn &&& (3 : Int32)), iv (xa.toInt8.toInt32), .unset, .unset, .unset, .unset, .unset] [(.int xb)]
  refine OGo.st (fun _ kz => XT.i2b X0.here hx rfl (hb hby at_10) rfl kz) ?_
  show OG p e below Φ s₁ m 11 #[iv xn, iv xa, iv xb, iv xc, iv (xn &&& (3 : Int32)), iv (xa.toInt8.toInt32), .unset, .unset, .unset, .unset, .unset] [(.int (xb.toInt8.toInt32))]
  refine OGo.st (fun _ kz => XS.istore X0.here hx rfl (hb hby at_11) rfl (l' := #[iv xn, iv xa, iv xb, iv xc, iv (xn &&& (3 : Int32)), iv (xa.toInt8.toInt32), iv (xb.toInt8.toInt32), .unset, .unset, .unset, .unset]) rfl kz) ?_
  show OG p e below Φ s₁ m 13 #[iv xn, iv xa, iv xb, iv xc, iv (xn &&& (3 : Int32)), iv (xa.toInt8.toInt32), iv (xb.toInt8.toInt32), .unset, .unset, .unset, .unset] []
  refine OGo.st (fun _ kz => XS.iloadN X0.here hx rfl (hb hby at_13) rfl kz) ?_
  show OG p e below Φ s₁ m 14 #[iv xn, iv xa, iv xb, iv xc, iv (xn &&& (3 : Int32)), iv (xa.toInt8.toInt32), iv (xb.toInt8.toInt32), .unset, .unset, .unset, .unset] [(.int xc)]
  refine OGo.st (fun _ kz => XT.i2b X0.here hx rfl (hb hby at_14) rfl kz) ?_
  show OG p e below Φ s₁ m 15 #[iv xn, iv xa, iv xb, iv xc, iv (xn &&& (3 : Int32)), iv (xa.toInt8.toInt32), iv (xb.toInt8.toInt32), .unset, .unset, .unset, .unset] [(.int (xc.toInt8.toInt32))]
  refine OGo.st (fun _ kz => XS.istore X0.here hx rfl (hb hby at_15) rfl (l' := #[iv xn, iv xa, iv xb, iv xc, iv (xn &&& (3 : Int32)), iv (xa.toInt8.toInt32), iv (xb.toInt8.toInt32), iv (xc.toInt8.toInt32), .unset, .unset, .unset]) rfl kz) ?_
  show OG p e below Φ s₁ m 17 #[iv xn, iv xa, iv xb, iv xc, iv (xn &&& (3 : Int32)), iv (xa.toInt8.toInt32), iv (xb.toInt8.toInt32), iv (xc.toInt8.toInt32), .unset, .unset, .unset] []
  rcases own_and3 xn with hk1 | hk1 | hk1 | hk1
  · rw [hk1]
    show OG p e below Φ s₁ m 17 #[iv xn, iv xa, iv xb, iv xc, iv 0, iv (xa.toInt8.toInt32), iv (xb.toInt8.toInt32), iv (xc.toInt8.toInt32), .unset, .unset, .unset] []
    refine OGo.st (fun _ kz => XS.iload X0.here hx rfl (hb hby at_17) rfl kz) ?_
    show OG p e below Φ s₁ m 19 #[iv xn, iv xa, iv xb, iv xc, iv 0, iv (xa.toInt8.toInt32), iv (xb.toInt8.toInt32), iv (xc.toInt8.toInt32), .unset, .unset, .unset] [(.int 0)]
    refine OGo.st (fun _ kz => XS.ifNo X0.here hx rfl (hb hby at_19) rfl (XT.i0_ne_f (by decide)) kz) ?_
    show OG p e below Φ s₁ m 22 #[iv xn, iv xa, iv xb, iv xc, iv 0, iv (xa.toInt8.toInt32), iv (xb.toInt8.toInt32), iv (xc.toInt8.toInt32), .unset, .unset, .unset] []
    refine OGo.st (fun _ kz => XS.iconst X0.here hx rfl (hb hby at_22) kz) ?_
    show OG p e below Φ s₁ m 23 #[iv xn, iv xa, iv xb, iv xc, iv 0, iv (xa.toInt8.toInt32), iv (xb.toInt8.toInt32), iv (xc.toInt8.toInt32), .unset, .unset, .unset] [(.int 0)]
    obtain ⟨T2, h2, c2, X2, e2, E2, Ar2, st2⟩ := newP (aty := .byte) X0 hx hZ (ow0 hw) e0 (g := (mkF m 23 #[iv xn, iv xa, iv xb, iv xc, iv 0, iv (xa.toInt8.toInt32), iv (xb.toInt8.toInt32), iv (xc.toInt8.toInt32), .unset, .unset, .unset] [(.int 0)])) rfl (hb hby at_23) rfl (by decide) (cap := 0) (by decide) (by decide) (by decide) (by decide)
    obtain ⟨b2, g2⟩ : ∃ z, z = h0.size := ⟨_, rfl⟩
    rw [← g2] at Ar2 st2
    have ne2_ah : ah ≠ b2 := by rw [g2]; exact Nat.ne_of_lt V_h.lt
    have F3 := O_0.ext E2
    have F4 := V_h.ext E2
    have gb2 : n0 ≤ b2 := Nat.le_trans Z0 (Nat.le_of_eq g2.symm)
    have Zs2 : n0 ≤ h2.size := Nat.le_trans Z0 E2.1
    have V2 : Arv Z h2 b2 c2 .byte (0 : Int32) [] (.int (0 : Int32)) := (Arv.new Ar2 (by decide)).pad (pad_rep [] _ 0)
    refine OGo.st st2 ?_
    show OG p e below Φ T2 m 25 #[iv xn, iv xa, iv xb, iv xc, iv 0, iv (xa.toInt8.toInt32), iv (xb.toInt8.toInt32), iv (xc.toInt8.toInt32), .unset, .unset, .unset] [(.ref b2)]
    refine OGo.st (fun _ kz => XS.astore X2.here hx rfl (hb hby at_25) rfl rfl (l' := #[iv xn, iv xa, iv xb, iv xc, iv 0, iv (xa.toInt8.toInt32), iv (xb.toInt8.toInt32), iv (xc.toInt8.toInt32), rv b2, .unset, .unset]) rfl kz) ?_
    show OG p e below Φ T2 m 27 #[iv xn, iv xa, iv xb, iv xc, iv 0, iv (xa.toInt8.toInt32), iv (xb.toInt8.toInt32), iv (xc.toInt8.toInt32), rv b2, .unset, .unset] []
    refine OGo.st (fun _ kz => XS.goto X2.here hx rfl (pc0 := 27) (pc' := 93) rfl (hb hby at_27) (by decide) (by decide) kz) ?_
    show OG p e below Φ T2 m 93 #[iv xn, iv xa, iv xb, iv xc, iv 0, iv (xa.toInt8.toInt32), iv (xb.toInt8.toInt32), iv (xc.toInt8.toInt32), rv b2, .unset, .unset] []
    refine OGo.st (fun _ kz => XS.aload X2.here hx rfl (hb hby at_93) rfl rfl kz) ?_
    show OG p e below Φ T2 m 95 #[iv xn, iv xa, iv xb, iv xc, iv 0, iv (xa.toInt8.toInt32), iv (xb.toInt8.toInt32), iv (xc.toInt8.toInt32), rv b2, .unset, .unset] [(.ref b2)]
    obtain ⟨_, T5, L5, X5, hQ5, st5⟩ := own_callSt X2 hx hZ hown (ow1 hw) (ow2 hw) (ow3 hw) (ow4 hw) (by decide) (rof0 l Z a0 hw [] b2 c2 ah ch qc h2 n0 Zs2 F3 V2 F4 S_h S_cs hq) e2 (W := 0) (by decide) (by decide) (by decide) (by decide) (pc := 95) (ls := #[iv xn, iv xa, iv xb, iv xc, iv 0, iv (xa.toInt8.toInt32), iv (xb.toInt8.toInt32), iv (xc.toInt8.toInt32), rv b2, .unset, .unset]) (stk := [(.ref b2)]) (by rw [hml]; rfl) (argsL := [(.ref b2)]) (rest := []) (lenOf pd11 rfl) rfl rfl (Nat.le_of_eq rfl) (hb hby at_95)
    obtain ⟨sx5, bx5, cx5, rfl, Nq5, Kq5, Eq5, Fv5, Fc5, Vq5, hz5, hy5, nn5⟩ := hQ5
    have N5 := Fr.app N0 Nq5
    have Zs5 : n0 ≤ T5.heap.size := Nat.le_trans Zs2 Kq5.1
    have F6 := F3.keep Kq5 all0
    have F7 := F4.keep Kq5 nin0
    have F8 := V2.keep Kq5 nin0
    refine OGo.st st5 ?_
    show OG p e below Φ T5 m 98 #[iv xn, iv xa, iv xb, iv xc, iv 0, iv (xa.toInt8.toInt32), iv (xb.toInt8.toInt32), iv (xc.toInt8.toInt32), rv b2, .unset, .unset] [(.ref sx5)]
    refine OGo.st (fun _ kz => XS.astore X5.here hx rfl (hb hby at_98) rfl rfl (l' := #[iv xn, iv xa, iv xb, iv xc, iv 0, iv (xa.toInt8.toInt32), iv (xb.toInt8.toInt32), iv (xc.toInt8.toInt32), rv b2, rv sx5, .unset]) rfl kz) ?_
    show OG p e below Φ T5 m 100 #[iv xn, iv xa, iv xb, iv xc, iv 0, iv (xa.toInt8.toInt32), iv (xb.toInt8.toInt32), iv (xc.toInt8.toInt32), rv b2, rv sx5, .unset] []
    refine OGo.st (fun _ kz => XS.aload X5.here hx rfl (hb hby at_100) rfl rfl kz) ?_
    show OG p e below Φ T5 m 102 #[iv xn, iv xa, iv xb, iv xc, iv 0, iv (xa.toInt8.toInt32), iv (xb.toInt8.toInt32), iv (xc.toInt8.toInt32), rv b2, rv sx5, .unset] [(.ref sx5)]
    refine OGo.st (fun _ kz => XS.ifnullNo X5.here hx rfl (hb hby at_102) rfl kz) ?_
    show OG p e below Φ T5 m 105 #[iv xn, iv xa, iv xb, iv xc, iv 0, iv (xa.toInt8.toInt32), iv (xb.toInt8.toInt32), iv (xc.toInt8.toInt32), rv b2, rv sx5, .unset] []
    refine OGo.st (fun _ kz => XS.aload X5.here hx rfl (hb hby at_105) rfl rfl kz) ?_
    show OG p e below Φ T5 m 107 #[iv xn, iv xa, iv xb, iv xc, iv 0, iv (xa.toInt8.toInt32), iv (xb.toInt8.toInt32), iv (xc.toInt8.toInt32), rv b2, rv sx5, .unset] [(.ref sx5)]
    obtain ⟨_, T9, L9, X9, hQ9, st9⟩ := own_callVi X5 hx hZ hown (ow34 hw) (ow35 hw) (notFace_of_selects (args := #[]) (mvT hZ (ow37 hw))) (ow37 hw) (ow36 hw) (ow8 hw) (ow38 hw) (by decide) (rgle2 l Z a0 hw [] sx5 bx5 cx5 qc (92 : Int32) (120 : Int32) T5.heap n0 Zs5 Eq5 Fv5 Fc5 Vq5 (S_cs.ext F6.2) hq) rfl (W := 0) (by decide) (by decide) (by decide) (by decide) Eq5 (pc := 107) (ls := #[iv xn, iv xa, iv xb, iv xc, iv 0, iv (xa.toInt8.toInt32), iv (xb.toInt8.toInt32), iv (xc.toInt8.toInt32), rv b2, rv sx5, .unset]) (stk := [(.ref sx5)]) (by rw [hml]; rfl) (argsL := []) (rest := []) (lenOf pd12 rfl) rfl rfl (Nat.le_of_eq rfl) (hb hby at_107)
    obtain ⟨rfl, Nq9, e9⟩ := hQ9
    have N9 := Fr.app N5 Nq9
    refine OGo.st st9 ?_
    show OG p e below Φ T9 m 110 #[iv xn, iv xa, iv xb, iv xc, iv 0, iv (xa.toInt8.toInt32), iv (xb.toInt8.toInt32), iv (xc.toInt8.toInt32), rv b2, rv sx5, .unset] [(.int 2)]
    refine OGo.st (fun _ kz => XS.iconst X9.here hx rfl (hb hby at_110) kz) ?_
    show OG p e below Φ T9 m 111 #[iv xn, iv xa, iv xb, iv xc, iv 0, iv (xa.toInt8.toInt32), iv (xb.toInt8.toInt32), iv (xc.toInt8.toInt32), rv b2, rv sx5, .unset] [(.int 2), (.int 2)]
    refine OGo.st (fun _ kz => XS.iconst X9.here hx rfl (hb hby at_111) kz) ?_
    show OG p e below Φ T9 m 112 #[iv xn, iv xa, iv xb, iv xc, iv 0, iv (xa.toInt8.toInt32), iv (xb.toInt8.toInt32), iv (xc.toInt8.toInt32), rv b2, rv sx5, .unset] [(.int 2), (.int 2), (.int 2)]
    refine OGo.st (fun _ kz => XS.iload X9.here hx rfl (hb hby at_112) rfl kz) ?_
    show OG p e below Φ T9 m 114 #[iv xn, iv xa, iv xb, iv xc, iv 0, iv (xa.toInt8.toInt32), iv (xb.toInt8.toInt32), iv (xc.toInt8.toInt32), rv b2, rv sx5, .unset] [(.int 0), (.int 2), (.int 2), (.int 2)]
    refine OGo.st (fun _ kz => XS.imul X9.here hx rfl (hb hby at_114) rfl kz) ?_
    show OG p e below Φ T9 m 115 #[iv xn, iv xa, iv xb, iv xc, iv 0, iv (xa.toInt8.toInt32), iv (xb.toInt8.toInt32), iv (xc.toInt8.toInt32), rv b2, rv sx5, .unset] [(.int 0), (.int 2), (.int 2)]
    refine OGo.st (fun _ kz => XS.iadd X9.here hx rfl (hb hby at_115) rfl kz) ?_
    show OG p e below Φ T9 m 116 #[iv xn, iv xa, iv xb, iv xc, iv 0, iv (xa.toInt8.toInt32), iv (xb.toInt8.toInt32), iv (xc.toInt8.toInt32), rv b2, rv sx5, .unset] [(.int 2), (.int 2)]
    refine OGo.st (fun _ kz => XS.icmpYes X9.here hx rfl (pc0 := 116) (pc' := 121) rfl (hb hby at_116) rfl (XT.ii_eq_t (by decide)) (by decide) (by decide) kz) ?_
    show OG p e below Φ T9 m 121 #[iv xn, iv xa, iv xb, iv xc, iv 0, iv (xa.toInt8.toInt32), iv (xb.toInt8.toInt32), iv (xc.toInt8.toInt32), rv b2, rv sx5, .unset] []
    refine OGo.st (fun _ kz => XS.aload X9.here hx rfl (hb hby at_121) rfl rfl kz) ?_
    show OG p e below Φ T9 m 123 #[iv xn, iv xa, iv xb, iv xc, iv 0, iv (xa.toInt8.toInt32), iv (xb.toInt8.toInt32), iv (xc.toInt8.toInt32), rv b2, rv sx5, .unset] [(.ref sx5)]
    refine OGo.st (fun _ kz => XS.iconst X9.here hx rfl (hb hby at_123) kz) ?_
    show OG p e below Φ T9 m 124 #[iv xn, iv xa, iv xb, iv xc, iv 0, iv (xa.toInt8.toInt32), iv (xb.toInt8.toInt32), iv (xc.toInt8.toInt32), rv b2, rv sx5, .unset] [(.int 0), (.ref sx5)]
    obtain ⟨_, T10, L10, X10, hQ10, st10⟩ := own_callVi X9 hx hZ hown (ow44 hw) (ow45 hw) (notFace_of_selects (args := #[]) (mvT hZ (ow47 hw))) (ow47 hw) (ow46 hw) (ow8 hw) (ow48 hw) (by decide) (rgh2_0 l Z a0 hw [] sx5 bx5 cx5 qc vf (92 : Int32) (120 : Int32) T5.heap n0 Zs5 Eq5 Fv5 Fc5 Vq5 (S_cs.ext F6.2) hq (S_si.ext F6.2) rvf) e9 (W := 0) (by decide) (by decide) (by decide) (by decide) Eq5 (pc := 124) (ls := #[iv xn, iv xa, iv xb, iv xc, iv 0, iv (xa.toInt8.toInt32), iv (xb.toInt8.toInt32), iv (xc.toInt8.toInt32), rv b2, rv sx5, .unset]) (stk := [(.int 0), (.ref sx5)]) (by rw [hml]; rfl) (argsL := [(.int 0)]) (rest := []) (lenOf pd10 rfl) rfl rfl (Nat.le_of_eq rfl) (hb hby at_124)
    obtain ⟨rfl, Nq10, e10⟩ := hQ10
    have N10 := Fr.app N9 Nq10
    refine OGo.st st10 ?_
    show OG p e below Φ T10 m 127 #[iv xn, iv xa, iv xb, iv xc, iv 0, iv (xa.toInt8.toInt32), iv (xb.toInt8.toInt32), iv (xc.toInt8.toInt32), rv b2, rv sx5, .unset] [(.int 92)]
    refine OGo.st (fun _ kz => XS.bipush X10.here hx rfl (hb hby at_127) kz) ?_
    show OG p e below Φ T10 m 129 #[iv xn, iv xa, iv xb, iv xc, iv 0, iv (xa.toInt8.toInt32), iv (xb.toInt8.toInt32), iv (xc.toInt8.toInt32), rv b2, rv sx5, .unset] [(.int 92), (.int 92)]
    refine OGo.st (fun _ kz => XS.icmpNo X10.here hx rfl (hb hby at_129) rfl (XT.ii_ne_f (by decide)) kz) ?_
    show OG p e below Φ T10 m 132 #[iv xn, iv xa, iv xb, iv xc, iv 0, iv (xa.toInt8.toInt32), iv (xb.toInt8.toInt32), iv (xc.toInt8.toInt32), rv b2, rv sx5, .unset] []
    refine OGo.st (fun _ kz => XS.aload X10.here hx rfl (hb hby at_132) rfl rfl kz) ?_
    show OG p e below Φ T10 m 134 #[iv xn, iv xa, iv xb, iv xc, iv 0, iv (xa.toInt8.toInt32), iv (xb.toInt8.toInt32), iv (xc.toInt8.toInt32), rv b2, rv sx5, .unset] [(.ref sx5)]
    refine OGo.st (fun _ kz => XS.iconst X10.here hx rfl (hb hby at_134) kz) ?_
    show OG p e below Φ T10 m 135 #[iv xn, iv xa, iv xb, iv xc, iv 0, iv (xa.toInt8.toInt32), iv (xb.toInt8.toInt32), iv (xc.toInt8.toInt32), rv b2, rv sx5, .unset] [(.int 1), (.ref sx5)]
    obtain ⟨_, T11, L11, X11, hQ11, st11⟩ := own_callVi X10 hx hZ hown (ow44 hw) (ow45 hw) (notFace_of_selects (args := #[]) (mvT hZ (ow47 hw))) (ow47 hw) (ow46 hw) (ow8 hw) (ow48 hw) (by decide) (rgh2_1 l Z a0 hw [] sx5 bx5 cx5 qc vf (92 : Int32) (120 : Int32) T5.heap n0 Zs5 Eq5 Fv5 Fc5 Vq5 (S_cs.ext F6.2) hq (S_si.ext F6.2) rvf) e10 (W := 0) (by decide) (by decide) (by decide) (by decide) Eq5 (pc := 135) (ls := #[iv xn, iv xa, iv xb, iv xc, iv 0, iv (xa.toInt8.toInt32), iv (xb.toInt8.toInt32), iv (xc.toInt8.toInt32), rv b2, rv sx5, .unset]) (stk := [(.int 1), (.ref sx5)]) (by rw [hml]; rfl) (argsL := [(.int 1)]) (rest := []) (lenOf pd10 rfl) rfl rfl (Nat.le_of_eq rfl) (hb hby at_135)
    obtain ⟨rfl, Nq11, e11⟩ := hQ11
    have N11 := Fr.app N10 Nq11
    refine OGo.st st11 ?_
    show OG p e below Φ T11 m 138 #[iv xn, iv xa, iv xb, iv xc, iv 0, iv (xa.toInt8.toInt32), iv (xb.toInt8.toInt32), iv (xc.toInt8.toInt32), rv b2, rv sx5, .unset] [(.int 120)]
    refine OGo.st (fun _ kz => XS.bipush X11.here hx rfl (hb hby at_138) kz) ?_
    show OG p e below Φ T11 m 140 #[iv xn, iv xa, iv xb, iv xc, iv 0, iv (xa.toInt8.toInt32), iv (xb.toInt8.toInt32), iv (xc.toInt8.toInt32), rv b2, rv sx5, .unset] [(.int 120), (.int 120)]
    refine OGo.st (fun _ kz => XS.icmpYes X11.here hx rfl (pc0 := 140) (pc' := 145) rfl (hb hby at_140) rfl (XT.ii_eq_t (by decide)) (by decide) (by decide) kz) ?_
    show OG p e below Φ T11 m 145 #[iv xn, iv xa, iv xb, iv xc, iv 0, iv (xa.toInt8.toInt32), iv (xb.toInt8.toInt32), iv (xc.toInt8.toInt32), rv b2, rv sx5, .unset] []
    refine OGo.st (fun _ kz => XS.iconst X11.here hx rfl (hb hby at_145) kz) ?_
    show OG p e below Φ T11 m 146 #[iv xn, iv xa, iv xb, iv xc, iv 0, iv (xa.toInt8.toInt32), iv (xb.toInt8.toInt32), iv (xc.toInt8.toInt32), rv b2, rv sx5, .unset] [(.int 1)]
    refine OGo.st (fun _ kz => XS.istore X11.here hx rfl (hb hby at_146) rfl (l' := #[iv xn, iv xa, iv xb, iv xc, iv 0, iv (xa.toInt8.toInt32), iv (xb.toInt8.toInt32), iv (xc.toInt8.toInt32), rv b2, rv sx5, iv 1]) rfl kz) ?_
    show OG p e below Φ T11 m 148 #[iv xn, iv xa, iv xb, iv xc, iv 0, iv (xa.toInt8.toInt32), iv (xb.toInt8.toInt32), iv (xc.toInt8.toInt32), rv b2, rv sx5, iv 1] []
    refine OGo.st (fun _ kz => XS.iload X11.here hx rfl (hb hby at_148) rfl kz) ?_
    show OG p e below Φ T11 m 150 #[iv xn, iv xa, iv xb, iv xc, iv 0, iv (xa.toInt8.toInt32), iv (xb.toInt8.toInt32), iv (xc.toInt8.toInt32), rv b2, rv sx5, iv 1] [(.int 0)]
    refine OGo.st (fun _ kz => XS.iconst X11.here hx rfl (hb hby at_150) kz) ?_
    show OG p e below Φ T11 m 151 #[iv xn, iv xa, iv xb, iv xc, iv 0, iv (xa.toInt8.toInt32), iv (xb.toInt8.toInt32), iv (xc.toInt8.toInt32), rv b2, rv sx5, iv 1] [(.int 1), (.int 0)]
    refine OGo.st (fun _ kz => XS.icmpYes X11.here hx rfl (pc0 := 151) (pc' := 177) rfl (hb hby at_151) rfl (XT.ii_lt_t (by decide)) (by decide) (by decide) kz) ?_
    show OG p e below Φ T11 m 177 #[iv xn, iv xa, iv xb, iv xc, iv 0, iv (xa.toInt8.toInt32), iv (xb.toInt8.toInt32), iv (xc.toInt8.toInt32), rv b2, rv sx5, iv 1] []
    refine OGo.st (fun _ kz => XS.iload X11.here hx rfl (hb hby at_177) rfl kz) ?_
    show OG p e below Φ T11 m 179 #[iv xn, iv xa, iv xb, iv xc, iv 0, iv (xa.toInt8.toInt32), iv (xb.toInt8.toInt32), iv (xc.toInt8.toInt32), rv b2, rv sx5, iv 1] [(.int 0)]
    refine OGo.st (fun _ kz => XS.iconst X11.here hx rfl (hb hby at_179) kz) ?_
    show OG p e below Φ T11 m 180 #[iv xn, iv xa, iv xb, iv xc, iv 0, iv (xa.toInt8.toInt32), iv (xb.toInt8.toInt32), iv (xc.toInt8.toInt32), rv b2, rv sx5, iv 1] [(.int 2), (.int 0)]
    refine OGo.st (fun _ kz => XS.icmpYes X11.here hx rfl (pc0 := 180) (pc' := 206) rfl (hb hby at_180) rfl (XT.ii_lt_t (by decide)) (by decide) (by decide) kz) ?_
    show OG p e below Φ T11 m 206 #[iv xn, iv xa, iv xb, iv xc, iv 0, iv (xa.toInt8.toInt32), iv (xb.toInt8.toInt32), iv (xc.toInt8.toInt32), rv b2, rv sx5, iv 1] []
    refine OGo.st (fun _ kz => XS.iload X11.here hx rfl (hb hby at_206) rfl kz) ?_
    show OG p e below Φ T11 m 208 #[iv xn, iv xa, iv xb, iv xc, iv 0, iv (xa.toInt8.toInt32), iv (xb.toInt8.toInt32), iv (xc.toInt8.toInt32), rv b2, rv sx5, iv 1] [(.int 0)]
    refine OGo.st (fun _ kz => XS.iconst X11.here hx rfl (hb hby at_208) kz) ?_
    show OG p e below Φ T11 m 209 #[iv xn, iv xa, iv xb, iv xc, iv 0, iv (xa.toInt8.toInt32), iv (xb.toInt8.toInt32), iv (xc.toInt8.toInt32), rv b2, rv sx5, iv 1] [(.int 3), (.int 0)]
    refine OGo.st (fun _ kz => XS.icmpYes X11.here hx rfl (pc0 := 209) (pc' := 235) rfl (hb hby at_209) rfl (XT.ii_lt_t (by decide)) (by decide) (by decide) kz) ?_
    show OG p e below Φ T11 m 235 #[iv xn, iv xa, iv xb, iv xc, iv 0, iv (xa.toInt8.toInt32), iv (xb.toInt8.toInt32), iv (xc.toInt8.toInt32), rv b2, rv sx5, iv 1] []
    refine OGo.st (fun _ kz => XS.iload X11.here hx rfl (hb hby at_235) rfl kz) ?_
    show OG p e below Φ T11 m 237 #[iv xn, iv xa, iv xb, iv xc, iv 0, iv (xa.toInt8.toInt32), iv (xb.toInt8.toInt32), iv (xc.toInt8.toInt32), rv b2, rv sx5, iv 1] [(.int 1)]
    refine OGo.fin X11 hlk (v := (some (.int 1))) (fun h => by rw [hret] at h; cases h) (by decide) (by decide) (fun fs hr => X11.ireturnOut hx hret rfl (by simp) (hb hby at_237) hr) fun U eU hF => hΦ _ _ _ ?_ hF
    rw [eU, e11]
    show Q_rm0 Z xn xa xb xc ah ch qc vf h0 n0 _ _ _
    exact ⟨rfl, N11⟩
  · rw [hk1]
    show OG p e below Φ s₁ m 17 #[iv xn, iv xa, iv xb, iv xc, iv 1, iv (xa.toInt8.toInt32), iv (xb.toInt8.toInt32), iv (xc.toInt8.toInt32), .unset, .unset, .unset] []
    refine OGo.st (fun _ kz => XS.iload X0.here hx rfl (hb hby at_17) rfl kz) ?_
    show OG p e below Φ s₁ m 19 #[iv xn, iv xa, iv xb, iv xc, iv 1, iv (xa.toInt8.toInt32), iv (xb.toInt8.toInt32), iv (xc.toInt8.toInt32), .unset, .unset, .unset] [(.int 1)]
    refine OGo.st (fun _ kz => XS.ifYes X0.here hx rfl (pc0 := 19) (pc' := 30) rfl (hb hby at_19) rfl (XT.i0_ne_t (by decide)) (by decide) (by decide) kz) ?_
    show OG p e below Φ s₁ m 30 #[iv xn, iv xa, iv xb, iv xc, iv 1, iv (xa.toInt8.toInt32), iv (xb.toInt8.toInt32), iv (xc.toInt8.toInt32), .unset, .unset, .unset] []
    refine OGo.st (fun _ kz => XS.iload X0.here hx rfl (hb hby at_30) rfl kz) ?_
    show OG p e below Φ s₁ m 32 #[iv xn, iv xa, iv xb, iv xc, iv 1, iv (xa.toInt8.toInt32), iv (xb.toInt8.toInt32), iv (xc.toInt8.toInt32), .unset, .unset, .unset] [(.int 1)]
    refine OGo.st (fun _ kz => XS.iconst X0.here hx rfl (hb hby at_32) kz) ?_
    show OG p e below Φ s₁ m 33 #[iv xn, iv xa, iv xb, iv xc, iv 1, iv (xa.toInt8.toInt32), iv (xb.toInt8.toInt32), iv (xc.toInt8.toInt32), .unset, .unset, .unset] [(.int 1), (.int 1)]
    refine OGo.st (fun _ kz => XS.icmpNo X0.here hx rfl (hb hby at_33) rfl (XT.ii_ne_f (by decide)) kz) ?_
    show OG p e below Φ s₁ m 36 #[iv xn, iv xa, iv xb, iv xc, iv 1, iv (xa.toInt8.toInt32), iv (xb.toInt8.toInt32), iv (xc.toInt8.toInt32), .unset, .unset, .unset] []
    refine OGo.st (fun _ kz => XS.iconst X0.here hx rfl (hb hby at_36) kz) ?_
    show OG p e below Φ s₁ m 37 #[iv xn, iv xa, iv xb, iv xc, iv 1, iv (xa.toInt8.toInt32), iv (xb.toInt8.toInt32), iv (xc.toInt8.toInt32), .unset, .unset, .unset] [(.int 1)]
    obtain ⟨T12, h12, c12, X12, e12, E12, Ar12, st12⟩ := newP (aty := .byte) X0 hx hZ (ow0 hw) e0 (g := (mkF m 37 #[iv xn, iv xa, iv xb, iv xc, iv 1, iv (xa.toInt8.toInt32), iv (xb.toInt8.toInt32), iv (xc.toInt8.toInt32), .unset, .unset, .unset] [(.int 1)])) rfl (hb hby at_37) rfl (by decide) (cap := 1) (by decide) (by decide) (by decide) (by decide)
    obtain ⟨b12, g12⟩ : ∃ z, z = h0.size := ⟨_, rfl⟩
    rw [← g12] at Ar12 st12
    have ne12_ah : ah ≠ b12 := by rw [g12]; exact Nat.ne_of_lt V_h.lt
    have F13 := O_0.ext E12
    have F14 := V_h.ext E12
    have gb12 : n0 ≤ b12 := Nat.le_trans Z0 (Nat.le_of_eq g12.symm)
    have Zs12 : n0 ≤ h12.size := Nat.le_trans Z0 E12.1
    have V12 : Arv Z h12 b12 c12 .byte (1 : Int32) [(.int (0 : Int32))] (.int (0 : Int32)) := (Arv.new Ar12 (by decide)).pad (pad_rep [] _ 1)
    refine OGo.st st12 ?_
    show OG p e below Φ T12 m 39 #[iv xn, iv xa, iv xb, iv xc, iv 1, iv (xa.toInt8.toInt32), iv (xb.toInt8.toInt32), iv (xc.toInt8.toInt32), .unset, .unset, .unset] [(.ref b12)]
    refine OGo.st (fun _ kz => XS.dup X12.here hx rfl (hb hby at_39) rfl rfl kz) ?_
    show OG p e below Φ T12 m 40 #[iv xn, iv xa, iv xb, iv xc, iv 1, iv (xa.toInt8.toInt32), iv (xb.toInt8.toInt32), iv (xc.toInt8.toInt32), .unset, .unset, .unset] [(.ref b12), (.ref b12)]
    refine OGo.st (fun _ kz => XS.iconst X12.here hx rfl (hb hby at_40) kz) ?_
    show OG p e below Φ T12 m 41 #[iv xn, iv xa, iv xb, iv xc, iv 1, iv (xa.toInt8.toInt32), iv (xb.toInt8.toInt32), iv (xc.toInt8.toInt32), .unset, .unset, .unset] [(.int 0), (.ref b12), (.ref b12)]
    refine OGo.st (fun _ kz => XS.iload X12.here hx rfl (hb hby at_41) rfl kz) ?_
    show OG p e below Φ T12 m 43 #[iv xn, iv xa, iv xb, iv xc, iv 1, iv (xa.toInt8.toInt32), iv (xb.toInt8.toInt32), iv (xc.toInt8.toInt32), .unset, .unset, .unset] [(.int (xa.toInt8.toInt32)), (.int 0), (.ref b12), (.ref b12)]
    obtain ⟨cl15, Aq15, Cq15, S15, M15, H15, G15⟩ := id V12
    have in15 : ¬ ((0 : Int32) < 0 ∨ cl15.slots.size ≤ (0 : Int32).toNatClampNeg) := inb_of S15 ⟨by decide, by decide⟩
    obtain ⟨T15, h15, X15, e15, W15, st15⟩ := stB X12 hx hZ e12 Aq15 in15 (g := (mkF m 43 #[iv xn, iv xa, iv xb, iv xc, iv 1, iv (xa.toInt8.toInt32), iv (xb.toInt8.toInt32), iv (xc.toInt8.toInt32), .unset, .unset, .unset] [(.int (xa.toInt8.toInt32)), (.int 0), (.ref b12), (.ref b12)])) rfl rfl (hb hby at_43)
    have W15 : Wr h12 h15 b12 (0 : Int32).toNatClampNeg (.int (nar .byte (xa.toInt8.toInt32))) := W15
    have F16 := F13.wr W15 gb12
    have F17 := F14.other W15 ne12_ah
    have V15 : Arv Z h15 b12 c12 .byte (1 : Int32) [(.int (nar .byte (xa.toInt8.toInt32)))] (.int (0 : Int32)) := Arv.set Aq15 Cq15 S15 M15 H15 G15 (fits_nar_byte _) W15 0 (by decide) (by show 0 < 1; decide)
    have N15 := Fr.snoc X15 N0 gb12
    have Zs15 : n0 ≤ h15.size := by rw [W15.size]; exact Zs12
    refine OGo.st st15 ?_
    show OG p e below Φ T15 m 44 #[iv xn, iv xa, iv xb, iv xc, iv 1, iv (xa.toInt8.toInt32), iv (xb.toInt8.toInt32), iv (xc.toInt8.toInt32), .unset, .unset, .unset] [(.ref b12)]
    refine OGo.st (fun _ kz => XS.astore X15.here hx rfl (hb hby at_44) rfl rfl (l' := #[iv xn, iv xa, iv xb, iv xc, iv 1, iv (xa.toInt8.toInt32), iv (xb.toInt8.toInt32), iv (xc.toInt8.toInt32), rv b12, .unset, .unset]) rfl kz) ?_
    show OG p e below Φ T15 m 46 #[iv xn, iv xa, iv xb, iv xc, iv 1, iv (xa.toInt8.toInt32), iv (xb.toInt8.toInt32), iv (xc.toInt8.toInt32), rv b12, .unset, .unset] []
    refine OGo.st (fun _ kz => XS.goto X15.here hx rfl (pc0 := 46) (pc' := 93) rfl (hb hby at_46) (by decide) (by decide) kz) ?_
    show OG p e below Φ T15 m 93 #[iv xn, iv xa, iv xb, iv xc, iv 1, iv (xa.toInt8.toInt32), iv (xb.toInt8.toInt32), iv (xc.toInt8.toInt32), rv b12, .unset, .unset] []
    refine OGo.st (fun _ kz => XS.aload X15.here hx rfl (hb hby at_93) rfl rfl kz) ?_
    show OG p e below Φ T15 m 95 #[iv xn, iv xa, iv xb, iv xc, iv 1, iv (xa.toInt8.toInt32), iv (xb.toInt8.toInt32), iv (xc.toInt8.toInt32), rv b12, .unset, .unset] [(.ref b12)]
    obtain ⟨_, T18, L18, X18, hQ18, st18⟩ := own_callSt X15 hx hZ hown (ow1 hw) (ow2 hw) (ow3 hw) (ow4 hw) (by decide) (rof1 l Z a0 hw [] b12 c12 (nar .byte (xa.toInt8.toInt32)) ah ch qc h15 n0 Zs15 F16 V15 F17 S_h S_cs hq) e15 (W := 0) (by decide) (by decide) (by decide) (by decide) (pc := 95) (ls := #[iv xn, iv xa, iv xb, iv xc, iv 1, iv (xa.toInt8.toInt32), iv (xb.toInt8.toInt32), iv (xc.toInt8.toInt32), rv b12, .unset, .unset]) (stk := [(.ref b12)]) (by rw [hml]; rfl) (argsL := [(.ref b12)]) (rest := []) (lenOf pd11 rfl) rfl rfl (Nat.le_of_eq rfl) (hb hby at_95)
    obtain ⟨sx18, bx18, cx18, rfl, Nq18, Kq18, Eq18, Fv18, Fc18, Vq18, hz18, hy18, nn18⟩ := hQ18
    have N18 := Fr.app N15 Nq18
    have Zs18 : n0 ≤ T18.heap.size := Nat.le_trans Zs15 Kq18.1
    have F19 := F16.keep Kq18 all0
    have F20 := F17.keep Kq18 nin0
    have F21 := V15.keep Kq18 nin0
    refine OGo.st st18 ?_
    show OG p e below Φ T18 m 98 #[iv xn, iv xa, iv xb, iv xc, iv 1, iv (xa.toInt8.toInt32), iv (xb.toInt8.toInt32), iv (xc.toInt8.toInt32), rv b12, .unset, .unset] [(.ref sx18)]
    refine OGo.st (fun _ kz => XS.astore X18.here hx rfl (hb hby at_98) rfl rfl (l' := #[iv xn, iv xa, iv xb, iv xc, iv 1, iv (xa.toInt8.toInt32), iv (xb.toInt8.toInt32), iv (xc.toInt8.toInt32), rv b12, rv sx18, .unset]) rfl kz) ?_
    show OG p e below Φ T18 m 100 #[iv xn, iv xa, iv xb, iv xc, iv 1, iv (xa.toInt8.toInt32), iv (xb.toInt8.toInt32), iv (xc.toInt8.toInt32), rv b12, rv sx18, .unset] []
    refine OGo.st (fun _ kz => XS.aload X18.here hx rfl (hb hby at_100) rfl rfl kz) ?_
    show OG p e below Φ T18 m 102 #[iv xn, iv xa, iv xb, iv xc, iv 1, iv (xa.toInt8.toInt32), iv (xb.toInt8.toInt32), iv (xc.toInt8.toInt32), rv b12, rv sx18, .unset] [(.ref sx18)]
    refine OGo.st (fun _ kz => XS.ifnullNo X18.here hx rfl (hb hby at_102) rfl kz) ?_
    show OG p e below Φ T18 m 105 #[iv xn, iv xa, iv xb, iv xc, iv 1, iv (xa.toInt8.toInt32), iv (xb.toInt8.toInt32), iv (xc.toInt8.toInt32), rv b12, rv sx18, .unset] []
    refine OGo.st (fun _ kz => XS.aload X18.here hx rfl (hb hby at_105) rfl rfl kz) ?_
    show OG p e below Φ T18 m 107 #[iv xn, iv xa, iv xb, iv xc, iv 1, iv (xa.toInt8.toInt32), iv (xb.toInt8.toInt32), iv (xc.toInt8.toInt32), rv b12, rv sx18, .unset] [(.ref sx18)]
    obtain ⟨_, T22, L22, X22, hQ22, st22⟩ := own_callVi X18 hx hZ hown (ow34 hw) (ow35 hw) (notFace_of_selects (args := #[]) (mvT hZ (ow37 hw))) (ow37 hw) (ow36 hw) (ow8 hw) (ow38 hw) (by decide) (rgle4 l Z a0 hw [] sx18 bx18 cx18 qc (92 : Int32) (120 : Int32) (own_hi (nar .byte (xa.toInt8.toInt32))) (own_lo (nar .byte (xa.toInt8.toInt32))) T18.heap n0 Zs18 Eq18 Fv18 Fc18 Vq18 (S_cs.ext F19.2) hq) rfl (W := 0) (by decide) (by decide) (by decide) (by decide) Eq18 (pc := 107) (ls := #[iv xn, iv xa, iv xb, iv xc, iv 1, iv (xa.toInt8.toInt32), iv (xb.toInt8.toInt32), iv (xc.toInt8.toInt32), rv b12, rv sx18, .unset]) (stk := [(.ref sx18)]) (by rw [hml]; rfl) (argsL := []) (rest := []) (lenOf pd12 rfl) rfl rfl (Nat.le_of_eq rfl) (hb hby at_107)
    obtain ⟨rfl, Nq22, e22⟩ := hQ22
    have N22 := Fr.app N18 Nq22
    refine OGo.st st22 ?_
    show OG p e below Φ T22 m 110 #[iv xn, iv xa, iv xb, iv xc, iv 1, iv (xa.toInt8.toInt32), iv (xb.toInt8.toInt32), iv (xc.toInt8.toInt32), rv b12, rv sx18, .unset] [(.int 4)]
    refine OGo.st (fun _ kz => XS.iconst X22.here hx rfl (hb hby at_110) kz) ?_
    show OG p e below Φ T22 m 111 #[iv xn, iv xa, iv xb, iv xc, iv 1, iv (xa.toInt8.toInt32), iv (xb.toInt8.toInt32), iv (xc.toInt8.toInt32), rv b12, rv sx18, .unset] [(.int 2), (.int 4)]
    refine OGo.st (fun _ kz => XS.iconst X22.here hx rfl (hb hby at_111) kz) ?_
    show OG p e below Φ T22 m 112 #[iv xn, iv xa, iv xb, iv xc, iv 1, iv (xa.toInt8.toInt32), iv (xb.toInt8.toInt32), iv (xc.toInt8.toInt32), rv b12, rv sx18, .unset] [(.int 2), (.int 2), (.int 4)]
    refine OGo.st (fun _ kz => XS.iload X22.here hx rfl (hb hby at_112) rfl kz) ?_
    show OG p e below Φ T22 m 114 #[iv xn, iv xa, iv xb, iv xc, iv 1, iv (xa.toInt8.toInt32), iv (xb.toInt8.toInt32), iv (xc.toInt8.toInt32), rv b12, rv sx18, .unset] [(.int 1), (.int 2), (.int 2), (.int 4)]
    refine OGo.st (fun _ kz => XS.imul X22.here hx rfl (hb hby at_114) rfl kz) ?_
    show OG p e below Φ T22 m 115 #[iv xn, iv xa, iv xb, iv xc, iv 1, iv (xa.toInt8.toInt32), iv (xb.toInt8.toInt32), iv (xc.toInt8.toInt32), rv b12, rv sx18, .unset] [(.int 2), (.int 2), (.int 4)]
    refine OGo.st (fun _ kz => XS.iadd X22.here hx rfl (hb hby at_115) rfl kz) ?_
    show OG p e below Φ T22 m 116 #[iv xn, iv xa, iv xb, iv xc, iv 1, iv (xa.toInt8.toInt32), iv (xb.toInt8.toInt32), iv (xc.toInt8.toInt32), rv b12, rv sx18, .unset] [(.int 4), (.int 4)]
    refine OGo.st (fun _ kz => XS.icmpYes X22.here hx rfl (pc0 := 116) (pc' := 121) rfl (hb hby at_116) rfl (XT.ii_eq_t (by decide)) (by decide) (by decide) kz) ?_
    show OG p e below Φ T22 m 121 #[iv xn, iv xa, iv xb, iv xc, iv 1, iv (xa.toInt8.toInt32), iv (xb.toInt8.toInt32), iv (xc.toInt8.toInt32), rv b12, rv sx18, .unset] []
    refine OGo.st (fun _ kz => XS.aload X22.here hx rfl (hb hby at_121) rfl rfl kz) ?_
    show OG p e below Φ T22 m 123 #[iv xn, iv xa, iv xb, iv xc, iv 1, iv (xa.toInt8.toInt32), iv (xb.toInt8.toInt32), iv (xc.toInt8.toInt32), rv b12, rv sx18, .unset] [(.ref sx18)]
    refine OGo.st (fun _ kz => XS.iconst X22.here hx rfl (hb hby at_123) kz) ?_
    show OG p e below Φ T22 m 124 #[iv xn, iv xa, iv xb, iv xc, iv 1, iv (xa.toInt8.toInt32), iv (xb.toInt8.toInt32), iv (xc.toInt8.toInt32), rv b12, rv sx18, .unset] [(.int 0), (.ref sx18)]
    obtain ⟨_, T23, L23, X23, hQ23, st23⟩ := own_callVi X22 hx hZ hown (ow44 hw) (ow45 hw) (notFace_of_selects (args := #[]) (mvT hZ (ow47 hw))) (ow47 hw) (ow46 hw) (ow8 hw) (ow48 hw) (by decide) (rgh4_0 l Z a0 hw [] sx18 bx18 cx18 qc vf (92 : Int32) (120 : Int32) (own_hi (nar .byte (xa.toInt8.toInt32))) (own_lo (nar .byte (xa.toInt8.toInt32))) T18.heap n0 Zs18 Eq18 Fv18 Fc18 Vq18 (S_cs.ext F19.2) hq (S_si.ext F19.2) rvf) e22 (W := 0) (by decide) (by decide) (by decide) (by decide) Eq18 (pc := 124) (ls := #[iv xn, iv xa, iv xb, iv xc, iv 1, iv (xa.toInt8.toInt32), iv (xb.toInt8.toInt32), iv (xc.toInt8.toInt32), rv b12, rv sx18, .unset]) (stk := [(.int 0), (.ref sx18)]) (by rw [hml]; rfl) (argsL := [(.int 0)]) (rest := []) (lenOf pd10 rfl) rfl rfl (Nat.le_of_eq rfl) (hb hby at_124)
    obtain ⟨rfl, Nq23, e23⟩ := hQ23
    have N23 := Fr.app N22 Nq23
    refine OGo.st st23 ?_
    show OG p e below Φ T23 m 127 #[iv xn, iv xa, iv xb, iv xc, iv 1, iv (xa.toInt8.toInt32), iv (xb.toInt8.toInt32), iv (xc.toInt8.toInt32), rv b12, rv sx18, .unset] [(.int 92)]
    refine OGo.st (fun _ kz => XS.bipush X23.here hx rfl (hb hby at_127) kz) ?_
    show OG p e below Φ T23 m 129 #[iv xn, iv xa, iv xb, iv xc, iv 1, iv (xa.toInt8.toInt32), iv (xb.toInt8.toInt32), iv (xc.toInt8.toInt32), rv b12, rv sx18, .unset] [(.int 92), (.int 92)]
    refine OGo.st (fun _ kz => XS.icmpNo X23.here hx rfl (hb hby at_129) rfl (XT.ii_ne_f (by decide)) kz) ?_
    show OG p e below Φ T23 m 132 #[iv xn, iv xa, iv xb, iv xc, iv 1, iv (xa.toInt8.toInt32), iv (xb.toInt8.toInt32), iv (xc.toInt8.toInt32), rv b12, rv sx18, .unset] []
    refine OGo.st (fun _ kz => XS.aload X23.here hx rfl (hb hby at_132) rfl rfl kz) ?_
    show OG p e below Φ T23 m 134 #[iv xn, iv xa, iv xb, iv xc, iv 1, iv (xa.toInt8.toInt32), iv (xb.toInt8.toInt32), iv (xc.toInt8.toInt32), rv b12, rv sx18, .unset] [(.ref sx18)]
    refine OGo.st (fun _ kz => XS.iconst X23.here hx rfl (hb hby at_134) kz) ?_
    show OG p e below Φ T23 m 135 #[iv xn, iv xa, iv xb, iv xc, iv 1, iv (xa.toInt8.toInt32), iv (xb.toInt8.toInt32), iv (xc.toInt8.toInt32), rv b12, rv sx18, .unset] [(.int 1), (.ref sx18)]
    obtain ⟨_, T24, L24, X24, hQ24, st24⟩ := own_callVi X23 hx hZ hown (ow44 hw) (ow45 hw) (notFace_of_selects (args := #[]) (mvT hZ (ow47 hw))) (ow47 hw) (ow46 hw) (ow8 hw) (ow48 hw) (by decide) (rgh4_1 l Z a0 hw [] sx18 bx18 cx18 qc vf (92 : Int32) (120 : Int32) (own_hi (nar .byte (xa.toInt8.toInt32))) (own_lo (nar .byte (xa.toInt8.toInt32))) T18.heap n0 Zs18 Eq18 Fv18 Fc18 Vq18 (S_cs.ext F19.2) hq (S_si.ext F19.2) rvf) e23 (W := 0) (by decide) (by decide) (by decide) (by decide) Eq18 (pc := 135) (ls := #[iv xn, iv xa, iv xb, iv xc, iv 1, iv (xa.toInt8.toInt32), iv (xb.toInt8.toInt32), iv (xc.toInt8.toInt32), rv b12, rv sx18, .unset]) (stk := [(.int 1), (.ref sx18)]) (by rw [hml]; rfl) (argsL := [(.int 1)]) (rest := []) (lenOf pd10 rfl) rfl rfl (Nat.le_of_eq rfl) (hb hby at_135)
    obtain ⟨rfl, Nq24, e24⟩ := hQ24
    have N24 := Fr.app N23 Nq24
    refine OGo.st st24 ?_
    show OG p e below Φ T24 m 138 #[iv xn, iv xa, iv xb, iv xc, iv 1, iv (xa.toInt8.toInt32), iv (xb.toInt8.toInt32), iv (xc.toInt8.toInt32), rv b12, rv sx18, .unset] [(.int 120)]
    refine OGo.st (fun _ kz => XS.bipush X24.here hx rfl (hb hby at_138) kz) ?_
    show OG p e below Φ T24 m 140 #[iv xn, iv xa, iv xb, iv xc, iv 1, iv (xa.toInt8.toInt32), iv (xb.toInt8.toInt32), iv (xc.toInt8.toInt32), rv b12, rv sx18, .unset] [(.int 120), (.int 120)]
    refine OGo.st (fun _ kz => XS.icmpYes X24.here hx rfl (pc0 := 140) (pc' := 145) rfl (hb hby at_140) rfl (XT.ii_eq_t (by decide)) (by decide) (by decide) kz) ?_
    show OG p e below Φ T24 m 145 #[iv xn, iv xa, iv xb, iv xc, iv 1, iv (xa.toInt8.toInt32), iv (xb.toInt8.toInt32), iv (xc.toInt8.toInt32), rv b12, rv sx18, .unset] []
    refine OGo.st (fun _ kz => XS.iconst X24.here hx rfl (hb hby at_145) kz) ?_
    show OG p e below Φ T24 m 146 #[iv xn, iv xa, iv xb, iv xc, iv 1, iv (xa.toInt8.toInt32), iv (xb.toInt8.toInt32), iv (xc.toInt8.toInt32), rv b12, rv sx18, .unset] [(.int 1)]
    refine OGo.st (fun _ kz => XS.istore X24.here hx rfl (hb hby at_146) rfl (l' := #[iv xn, iv xa, iv xb, iv xc, iv 1, iv (xa.toInt8.toInt32), iv (xb.toInt8.toInt32), iv (xc.toInt8.toInt32), rv b12, rv sx18, iv 1]) rfl kz) ?_
    show OG p e below Φ T24 m 148 #[iv xn, iv xa, iv xb, iv xc, iv 1, iv (xa.toInt8.toInt32), iv (xb.toInt8.toInt32), iv (xc.toInt8.toInt32), rv b12, rv sx18, iv 1] []
    refine OGo.st (fun _ kz => XS.iload X24.here hx rfl (hb hby at_148) rfl kz) ?_
    show OG p e below Φ T24 m 150 #[iv xn, iv xa, iv xb, iv xc, iv 1, iv (xa.toInt8.toInt32), iv (xb.toInt8.toInt32), iv (xc.toInt8.toInt32), rv b12, rv sx18, iv 1] [(.int 1)]
    refine OGo.st (fun _ kz => XS.iconst X24.here hx rfl (hb hby at_150) kz) ?_
    show OG p e below Φ T24 m 151 #[iv xn, iv xa, iv xb, iv xc, iv 1, iv (xa.toInt8.toInt32), iv (xb.toInt8.toInt32), iv (xc.toInt8.toInt32), rv b12, rv sx18, iv 1] [(.int 1), (.int 1)]
    refine OGo.st (fun _ kz => XS.icmpNo X24.here hx rfl (hb hby at_151) rfl (XT.ii_lt_f (by decide)) kz) ?_
    show OG p e below Φ T24 m 154 #[iv xn, iv xa, iv xb, iv xc, iv 1, iv (xa.toInt8.toInt32), iv (xb.toInt8.toInt32), iv (xc.toInt8.toInt32), rv b12, rv sx18, iv 1] []
    refine OGo.st (fun _ kz => XS.iload X24.here hx rfl (hb hby at_154) rfl kz) ?_
    show OG p e below Φ T24 m 156 #[iv xn, iv xa, iv xb, iv xc, iv 1, iv (xa.toInt8.toInt32), iv (xb.toInt8.toInt32), iv (xc.toInt8.toInt32), rv b12, rv sx18, iv 1] [(.int 1)]
    refine OGo.st (fun _ kz => XS.ifNo X24.here hx rfl (hb hby at_156) rfl (XT.i0_eq_f (by decide)) kz) ?_
    show OG p e below Φ T24 m 159 #[iv xn, iv xa, iv xb, iv xc, iv 1, iv (xa.toInt8.toInt32), iv (xb.toInt8.toInt32), iv (xc.toInt8.toInt32), rv b12, rv sx18, iv 1] []
    refine OGo.st (fun _ kz => XS.aload X24.here hx rfl (hb hby at_159) rfl rfl kz) ?_
    show OG p e below Φ T24 m 161 #[iv xn, iv xa, iv xb, iv xc, iv 1, iv (xa.toInt8.toInt32), iv (xb.toInt8.toInt32), iv (xc.toInt8.toInt32), rv b12, rv sx18, iv 1] [(.ref sx18)]
    refine OGo.st (fun _ kz => XS.iconst X24.here hx rfl (hb hby at_161) kz) ?_
    show OG p e below Φ T24 m 162 #[iv xn, iv xa, iv xb, iv xc, iv 1, iv (xa.toInt8.toInt32), iv (xb.toInt8.toInt32), iv (xc.toInt8.toInt32), rv b12, rv sx18, iv 1] [(.int 0), (.ref sx18)]
    refine OGo.st (fun _ kz => XS.iload X24.here hx rfl (hb hby at_162) rfl kz) ?_
    show OG p e below Φ T24 m 164 #[iv xn, iv xa, iv xb, iv xc, iv 1, iv (xa.toInt8.toInt32), iv (xb.toInt8.toInt32), iv (xc.toInt8.toInt32), rv b12, rv sx18, iv 1] [(.int (xa.toInt8.toInt32)), (.int 0), (.ref sx18)]
    obtain ⟨_, T25, L25, X25, hQ25, st25⟩ := own_callSt X24 hx hZ hown (ow68 hw) (ow69 hw) (ow70 hw) (ow71 hw) (by decide) (rpo4_0 l Z a0 hw [] (xa.toInt8) sx18 bx18 cx18 qc vf (92 : Int32) (120 : Int32) T18.heap n0 Zs18 Eq18 Fv18 Fc18 Vq18 (S_cs.ext F19.2) hq (S_si.ext F19.2) rvf) e24 (W := 0) (by decide) (by decide) (by decide) (by decide) (pc := 164) (ls := #[iv xn, iv xa, iv xb, iv xc, iv 1, iv (xa.toInt8.toInt32), iv (xb.toInt8.toInt32), iv (xc.toInt8.toInt32), rv b12, rv sx18, iv 1]) (stk := [(.int (xa.toInt8.toInt32)), (.int 0), (.ref sx18)]) (by rw [hml]; rfl) (argsL := [(.ref sx18), (.int 0), (.int (xa.toInt8.toInt32))]) (rest := []) (lenOf pd13 rfl) rfl rfl (Nat.le_of_eq rfl) (hb hby at_164)
    obtain ⟨rfl, Nq25, e25⟩ := hQ25
    have N25 := Fr.app N24 Nq25
    refine OGo.st st25 ?_
    show OG p e below Φ T25 m 167 #[iv xn, iv xa, iv xb, iv xc, iv 1, iv (xa.toInt8.toInt32), iv (xb.toInt8.toInt32), iv (xc.toInt8.toInt32), rv b12, rv sx18, iv 1] [(.int 1)]
    refine OGo.st (fun _ kz => XS.ifNo X25.here hx rfl (hb hby at_167) rfl (XT.i0_eq_f (by decide)) kz) ?_
    show OG p e below Φ T25 m 170 #[iv xn, iv xa, iv xb, iv xc, iv 1, iv (xa.toInt8.toInt32), iv (xb.toInt8.toInt32), iv (xc.toInt8.toInt32), rv b12, rv sx18, iv 1] []
    refine OGo.st (fun _ kz => XS.iconst X25.here hx rfl (hb hby at_170) kz) ?_
    show OG p e below Φ T25 m 171 #[iv xn, iv xa, iv xb, iv xc, iv 1, iv (xa.toInt8.toInt32), iv (xb.toInt8.toInt32), iv (xc.toInt8.toInt32), rv b12, rv sx18, iv 1] [(.int 1)]
    refine OGo.st (fun _ kz => XS.goto X25.here hx rfl (pc0 := 171) (pc' := 175) rfl (hb hby at_171) (by decide) (by decide) kz) ?_
    show OG p e below Φ T25 m 175 #[iv xn, iv xa, iv xb, iv xc, iv 1, iv (xa.toInt8.toInt32), iv (xb.toInt8.toInt32), iv (xc.toInt8.toInt32), rv b12, rv sx18, iv 1] [(.int 1)]
    refine OGo.st (fun _ kz => XS.istore X25.here hx rfl (hb hby at_175) rfl (l' := #[iv xn, iv xa, iv xb, iv xc, iv 1, iv (xa.toInt8.toInt32), iv (xb.toInt8.toInt32), iv (xc.toInt8.toInt32), rv b12, rv sx18, iv 1]) rfl kz) ?_
    show OG p e below Φ T25 m 177 #[iv xn, iv xa, iv xb, iv xc, iv 1, iv (xa.toInt8.toInt32), iv (xb.toInt8.toInt32), iv (xc.toInt8.toInt32), rv b12, rv sx18, iv 1] []
    refine OGo.st (fun _ kz => XS.iload X25.here hx rfl (hb hby at_177) rfl kz) ?_
    show OG p e below Φ T25 m 179 #[iv xn, iv xa, iv xb, iv xc, iv 1, iv (xa.toInt8.toInt32), iv (xb.toInt8.toInt32), iv (xc.toInt8.toInt32), rv b12, rv sx18, iv 1] [(.int 1)]
    refine OGo.st (fun _ kz => XS.iconst X25.here hx rfl (hb hby at_179) kz) ?_
    show OG p e below Φ T25 m 180 #[iv xn, iv xa, iv xb, iv xc, iv 1, iv (xa.toInt8.toInt32), iv (xb.toInt8.toInt32), iv (xc.toInt8.toInt32), rv b12, rv sx18, iv 1] [(.int 2), (.int 1)]
    refine OGo.st (fun _ kz => XS.icmpYes X25.here hx rfl (pc0 := 180) (pc' := 206) rfl (hb hby at_180) rfl (XT.ii_lt_t (by decide)) (by decide) (by decide) kz) ?_
    show OG p e below Φ T25 m 206 #[iv xn, iv xa, iv xb, iv xc, iv 1, iv (xa.toInt8.toInt32), iv (xb.toInt8.toInt32), iv (xc.toInt8.toInt32), rv b12, rv sx18, iv 1] []
    refine OGo.st (fun _ kz => XS.iload X25.here hx rfl (hb hby at_206) rfl kz) ?_
    show OG p e below Φ T25 m 208 #[iv xn, iv xa, iv xb, iv xc, iv 1, iv (xa.toInt8.toInt32), iv (xb.toInt8.toInt32), iv (xc.toInt8.toInt32), rv b12, rv sx18, iv 1] [(.int 1)]
    refine OGo.st (fun _ kz => XS.iconst X25.here hx rfl (hb hby at_208) kz) ?_
    show OG p e below Φ T25 m 209 #[iv xn, iv xa, iv xb, iv xc, iv 1, iv (xa.toInt8.toInt32), iv (xb.toInt8.toInt32), iv (xc.toInt8.toInt32), rv b12, rv sx18, iv 1] [(.int 3), (.int 1)]
    refine OGo.st (fun _ kz => XS.icmpYes X25.here hx rfl (pc0 := 209) (pc' := 235) rfl (hb hby at_209) rfl (XT.ii_lt_t (by decide)) (by decide) (by decide) kz) ?_
    show OG p e below Φ T25 m 235 #[iv xn, iv xa, iv xb, iv xc, iv 1, iv (xa.toInt8.toInt32), iv (xb.toInt8.toInt32), iv (xc.toInt8.toInt32), rv b12, rv sx18, iv 1] []
    refine OGo.st (fun _ kz => XS.iload X25.here hx rfl (hb hby at_235) rfl kz) ?_
    show OG p e below Φ T25 m 237 #[iv xn, iv xa, iv xb, iv xc, iv 1, iv (xa.toInt8.toInt32), iv (xb.toInt8.toInt32), iv (xc.toInt8.toInt32), rv b12, rv sx18, iv 1] [(.int 1)]
    refine OGo.fin X25 hlk (v := (some (.int 1))) (fun h => by rw [hret] at h; cases h) (by decide) (by decide) (fun fs hr => X25.ireturnOut hx hret rfl (by simp) (hb hby at_237) hr) fun U eU hF => hΦ _ _ _ ?_ hF
    rw [eU, e25]
    show Q_rm0 Z xn xa xb xc ah ch qc vf h0 n0 _ _ _
    exact ⟨rfl, N25⟩
  · rw [hk1]
    show OG p e below Φ s₁ m 17 #[iv xn, iv xa, iv xb, iv xc, iv 2, iv (xa.toInt8.toInt32), iv (xb.toInt8.toInt32), iv (xc.toInt8.toInt32), .unset, .unset, .unset] []
    refine OGo.st (fun _ kz => XS.iload X0.here hx rfl (hb hby at_17) rfl kz) ?_
    show OG p e below Φ s₁ m 19 #[iv xn, iv xa, iv xb, iv xc, iv 2, iv (xa.toInt8.toInt32), iv (xb.toInt8.toInt32), iv (xc.toInt8.toInt32), .unset, .unset, .unset] [(.int 2)]
    refine OGo.st (fun _ kz => XS.ifYes X0.here hx rfl (pc0 := 19) (pc' := 30) rfl (hb hby at_19) rfl (XT.i0_ne_t (by decide)) (by decide) (by decide) kz) ?_
    show OG p e below Φ s₁ m 30 #[iv xn, iv xa, iv xb, iv xc, iv 2, iv (xa.toInt8.toInt32), iv (xb.toInt8.toInt32), iv (xc.toInt8.toInt32), .unset, .unset, .unset] []
    refine OGo.st (fun _ kz => XS.iload X0.here hx rfl (hb hby at_30) rfl kz) ?_
    show OG p e below Φ s₁ m 32 #[iv xn, iv xa, iv xb, iv xc, iv 2, iv (xa.toInt8.toInt32), iv (xb.toInt8.toInt32), iv (xc.toInt8.toInt32), .unset, .unset, .unset] [(.int 2)]
    refine OGo.st (fun _ kz => XS.iconst X0.here hx rfl (hb hby at_32) kz) ?_
    show OG p e below Φ s₁ m 33 #[iv xn, iv xa, iv xb, iv xc, iv 2, iv (xa.toInt8.toInt32), iv (xb.toInt8.toInt32), iv (xc.toInt8.toInt32), .unset, .unset, .unset] [(.int 1), (.int 2)]
    refine OGo.st (fun _ kz => XS.icmpYes X0.here hx rfl (pc0 := 33) (pc' := 49) rfl (hb hby at_33) rfl (XT.ii_ne_t (by decide)) (by decide) (by decide) kz) ?_
    show OG p e below Φ s₁ m 49 #[iv xn, iv xa, iv xb, iv xc, iv 2, iv (xa.toInt8.toInt32), iv (xb.toInt8.toInt32), iv (xc.toInt8.toInt32), .unset, .unset, .unset] []
    refine OGo.st (fun _ kz => XS.iload X0.here hx rfl (hb hby at_49) rfl kz) ?_
    show OG p e below Φ s₁ m 51 #[iv xn, iv xa, iv xb, iv xc, iv 2, iv (xa.toInt8.toInt32), iv (xb.toInt8.toInt32), iv (xc.toInt8.toInt32), .unset, .unset, .unset] [(.int 2)]
    refine OGo.st (fun _ kz => XS.iconst X0.here hx rfl (hb hby at_51) kz) ?_
    show OG p e below Φ s₁ m 52 #[iv xn, iv xa, iv xb, iv xc, iv 2, iv (xa.toInt8.toInt32), iv (xb.toInt8.toInt32), iv (xc.toInt8.toInt32), .unset, .unset, .unset] [(.int 2), (.int 2)]
    refine OGo.st (fun _ kz => XS.icmpNo X0.here hx rfl (hb hby at_52) rfl (XT.ii_ne_f (by decide)) kz) ?_
    show OG p e below Φ s₁ m 55 #[iv xn, iv xa, iv xb, iv xc, iv 2, iv (xa.toInt8.toInt32), iv (xb.toInt8.toInt32), iv (xc.toInt8.toInt32), .unset, .unset, .unset] []
    refine OGo.st (fun _ kz => XS.iconst X0.here hx rfl (hb hby at_55) kz) ?_
    show OG p e below Φ s₁ m 56 #[iv xn, iv xa, iv xb, iv xc, iv 2, iv (xa.toInt8.toInt32), iv (xb.toInt8.toInt32), iv (xc.toInt8.toInt32), .unset, .unset, .unset] [(.int 2)]
    obtain ⟨T26, h26, c26, X26, e26, E26, Ar26, st26⟩ := newP (aty := .byte) X0 hx hZ (ow0 hw) e0 (g := (mkF m 56 #[iv xn, iv xa, iv xb, iv xc, iv 2, iv (xa.toInt8.toInt32), iv (xb.toInt8.toInt32), iv (xc.toInt8.toInt32), .unset, .unset, .unset] [(.int 2)])) rfl (hb hby at_56) rfl (by decide) (cap := 2) (by decide) (by decide) (by decide) (by decide)
    obtain ⟨b26, g26⟩ : ∃ z, z = h0.size := ⟨_, rfl⟩
    rw [← g26] at Ar26 st26
    have ne26_ah : ah ≠ b26 := by rw [g26]; exact Nat.ne_of_lt V_h.lt
    have F27 := O_0.ext E26
    have F28 := V_h.ext E26
    have gb26 : n0 ≤ b26 := Nat.le_trans Z0 (Nat.le_of_eq g26.symm)
    have Zs26 : n0 ≤ h26.size := Nat.le_trans Z0 E26.1
    have V26 : Arv Z h26 b26 c26 .byte (2 : Int32) [(.int (0 : Int32)), (.int (0 : Int32))] (.int (0 : Int32)) := (Arv.new Ar26 (by decide)).pad (pad_rep [] _ 2)
    refine OGo.st st26 ?_
    show OG p e below Φ T26 m 58 #[iv xn, iv xa, iv xb, iv xc, iv 2, iv (xa.toInt8.toInt32), iv (xb.toInt8.toInt32), iv (xc.toInt8.toInt32), .unset, .unset, .unset] [(.ref b26)]
    refine OGo.st (fun _ kz => XS.dup X26.here hx rfl (hb hby at_58) rfl rfl kz) ?_
    show OG p e below Φ T26 m 59 #[iv xn, iv xa, iv xb, iv xc, iv 2, iv (xa.toInt8.toInt32), iv (xb.toInt8.toInt32), iv (xc.toInt8.toInt32), .unset, .unset, .unset] [(.ref b26), (.ref b26)]
    refine OGo.st (fun _ kz => XS.iconst X26.here hx rfl (hb hby at_59) kz) ?_
    show OG p e below Φ T26 m 60 #[iv xn, iv xa, iv xb, iv xc, iv 2, iv (xa.toInt8.toInt32), iv (xb.toInt8.toInt32), iv (xc.toInt8.toInt32), .unset, .unset, .unset] [(.int 0), (.ref b26), (.ref b26)]
    refine OGo.st (fun _ kz => XS.iload X26.here hx rfl (hb hby at_60) rfl kz) ?_
    show OG p e below Φ T26 m 62 #[iv xn, iv xa, iv xb, iv xc, iv 2, iv (xa.toInt8.toInt32), iv (xb.toInt8.toInt32), iv (xc.toInt8.toInt32), .unset, .unset, .unset] [(.int (xa.toInt8.toInt32)), (.int 0), (.ref b26), (.ref b26)]
    obtain ⟨cl29, Aq29, Cq29, S29, M29, H29, G29⟩ := id V26
    have in29 : ¬ ((0 : Int32) < 0 ∨ cl29.slots.size ≤ (0 : Int32).toNatClampNeg) := inb_of S29 ⟨by decide, by decide⟩
    obtain ⟨T29, h29, X29, e29, W29, st29⟩ := stB X26 hx hZ e26 Aq29 in29 (g := (mkF m 62 #[iv xn, iv xa, iv xb, iv xc, iv 2, iv (xa.toInt8.toInt32), iv (xb.toInt8.toInt32), iv (xc.toInt8.toInt32), .unset, .unset, .unset] [(.int (xa.toInt8.toInt32)), (.int 0), (.ref b26), (.ref b26)])) rfl rfl (hb hby at_62)
    have W29 : Wr h26 h29 b26 (0 : Int32).toNatClampNeg (.int (nar .byte (xa.toInt8.toInt32))) := W29
    have F30 := F27.wr W29 gb26
    have F31 := F28.other W29 ne26_ah
    have V29 : Arv Z h29 b26 c26 .byte (2 : Int32) [(.int (nar .byte (xa.toInt8.toInt32))), (.int (0 : Int32))] (.int (0 : Int32)) := Arv.set Aq29 Cq29 S29 M29 H29 G29 (fits_nar_byte _) W29 0 (by decide) (by show 0 < 2; decide)
    have N29 := Fr.snoc X29 N0 gb26
    have Zs29 : n0 ≤ h29.size := by rw [W29.size]; exact Zs26
    refine OGo.st st29 ?_
    show OG p e below Φ T29 m 63 #[iv xn, iv xa, iv xb, iv xc, iv 2, iv (xa.toInt8.toInt32), iv (xb.toInt8.toInt32), iv (xc.toInt8.toInt32), .unset, .unset, .unset] [(.ref b26)]
    refine OGo.st (fun _ kz => XS.dup X29.here hx rfl (hb hby at_63) rfl rfl kz) ?_
    show OG p e below Φ T29 m 64 #[iv xn, iv xa, iv xb, iv xc, iv 2, iv (xa.toInt8.toInt32), iv (xb.toInt8.toInt32), iv (xc.toInt8.toInt32), .unset, .unset, .unset] [(.ref b26), (.ref b26)]
    refine OGo.st (fun _ kz => XS.iconst X29.here hx rfl (hb hby at_64) kz) ?_
    show OG p e below Φ T29 m 65 #[iv xn, iv xa, iv xb, iv xc, iv 2, iv (xa.toInt8.toInt32), iv (xb.toInt8.toInt32), iv (xc.toInt8.toInt32), .unset, .unset, .unset] [(.int 1), (.ref b26), (.ref b26)]
    refine OGo.st (fun _ kz => XS.iload X29.here hx rfl (hb hby at_65) rfl kz) ?_
    show OG p e below Φ T29 m 67 #[iv xn, iv xa, iv xb, iv xc, iv 2, iv (xa.toInt8.toInt32), iv (xb.toInt8.toInt32), iv (xc.toInt8.toInt32), .unset, .unset, .unset] [(.int (xb.toInt8.toInt32)), (.int 1), (.ref b26), (.ref b26)]
    obtain ⟨cl32, Aq32, Cq32, S32, M32, H32, G32⟩ := id V29
    have in32 : ¬ ((1 : Int32) < 0 ∨ cl32.slots.size ≤ (1 : Int32).toNatClampNeg) := inb_of S32 ⟨by decide, by decide⟩
    obtain ⟨T32, h32, X32, e32, W32, st32⟩ := stB X29 hx hZ e29 Aq32 in32 (g := (mkF m 67 #[iv xn, iv xa, iv xb, iv xc, iv 2, iv (xa.toInt8.toInt32), iv (xb.toInt8.toInt32), iv (xc.toInt8.toInt32), .unset, .unset, .unset] [(.int (xb.toInt8.toInt32)), (.int 1), (.ref b26), (.ref b26)])) rfl rfl (hb hby at_67)
    have W32 : Wr h29 h32 b26 (1 : Int32).toNatClampNeg (.int (nar .byte (xb.toInt8.toInt32))) := W32
    have F33 := F30.wr W32 gb26
    have F34 := F31.other W32 ne26_ah
    have V32 : Arv Z h32 b26 c26 .byte (2 : Int32) [(.int (nar .byte (xa.toInt8.toInt32))), (.int (nar .byte (xb.toInt8.toInt32)))] (.int (0 : Int32)) := Arv.set Aq32 Cq32 S32 M32 H32 G32 (fits_nar_byte _) W32 1 (by decide) (by show 1 < 2; decide)
    have N32 := Fr.snoc X32 N29 gb26
    have Zs32 : n0 ≤ h32.size := by rw [W32.size]; exact Zs29
    refine OGo.st st32 ?_
    show OG p e below Φ T32 m 68 #[iv xn, iv xa, iv xb, iv xc, iv 2, iv (xa.toInt8.toInt32), iv (xb.toInt8.toInt32), iv (xc.toInt8.toInt32), .unset, .unset, .unset] [(.ref b26)]
    refine OGo.st (fun _ kz => XS.astore X32.here hx rfl (hb hby at_68) rfl rfl (l' := #[iv xn, iv xa, iv xb, iv xc, iv 2, iv (xa.toInt8.toInt32), iv (xb.toInt8.toInt32), iv (xc.toInt8.toInt32), rv b26, .unset, .unset]) rfl kz) ?_
    show OG p e below Φ T32 m 70 #[iv xn, iv xa, iv xb, iv xc, iv 2, iv (xa.toInt8.toInt32), iv (xb.toInt8.toInt32), iv (xc.toInt8.toInt32), rv b26, .unset, .unset] []
    refine OGo.st (fun _ kz => XS.goto X32.here hx rfl (pc0 := 70) (pc' := 93) rfl (hb hby at_70) (by decide) (by decide) kz) ?_
    show OG p e below Φ T32 m 93 #[iv xn, iv xa, iv xb, iv xc, iv 2, iv (xa.toInt8.toInt32), iv (xb.toInt8.toInt32), iv (xc.toInt8.toInt32), rv b26, .unset, .unset] []
    refine OGo.st (fun _ kz => XS.aload X32.here hx rfl (hb hby at_93) rfl rfl kz) ?_
    show OG p e below Φ T32 m 95 #[iv xn, iv xa, iv xb, iv xc, iv 2, iv (xa.toInt8.toInt32), iv (xb.toInt8.toInt32), iv (xc.toInt8.toInt32), rv b26, .unset, .unset] [(.ref b26)]
    obtain ⟨_, T35, L35, X35, hQ35, st35⟩ := own_callSt X32 hx hZ hown (ow1 hw) (ow2 hw) (ow3 hw) (ow4 hw) (by decide) (rof2 l Z a0 hw [] b26 c26 (nar .byte (xa.toInt8.toInt32)) (nar .byte (xb.toInt8.toInt32)) ah ch qc h32 n0 Zs32 F33 V32 F34 S_h S_cs hq) e32 (W := 0) (by decide) (by decide) (by decide) (by decide) (pc := 95) (ls := #[iv xn, iv xa, iv xb, iv xc, iv 2, iv (xa.toInt8.toInt32), iv (xb.toInt8.toInt32), iv (xc.toInt8.toInt32), rv b26, .unset, .unset]) (stk := [(.ref b26)]) (by rw [hml]; rfl) (argsL := [(.ref b26)]) (rest := []) (lenOf pd11 rfl) rfl rfl (Nat.le_of_eq rfl) (hb hby at_95)
    obtain ⟨sx35, bx35, cx35, rfl, Nq35, Kq35, Eq35, Fv35, Fc35, Vq35, hz35, hy35, nn35⟩ := hQ35
    have N35 := Fr.app N32 Nq35
    have Zs35 : n0 ≤ T35.heap.size := Nat.le_trans Zs32 Kq35.1
    have F36 := F33.keep Kq35 all0
    have F37 := F34.keep Kq35 nin0
    have F38 := V32.keep Kq35 nin0
    refine OGo.st st35 ?_
    show OG p e below Φ T35 m 98 #[iv xn, iv xa, iv xb, iv xc, iv 2, iv (xa.toInt8.toInt32), iv (xb.toInt8.toInt32), iv (xc.toInt8.toInt32), rv b26, .unset, .unset] [(.ref sx35)]
    refine OGo.st (fun _ kz => XS.astore X35.here hx rfl (hb hby at_98) rfl rfl (l' := #[iv xn, iv xa, iv xb, iv xc, iv 2, iv (xa.toInt8.toInt32), iv (xb.toInt8.toInt32), iv (xc.toInt8.toInt32), rv b26, rv sx35, .unset]) rfl kz) ?_
    show OG p e below Φ T35 m 100 #[iv xn, iv xa, iv xb, iv xc, iv 2, iv (xa.toInt8.toInt32), iv (xb.toInt8.toInt32), iv (xc.toInt8.toInt32), rv b26, rv sx35, .unset] []
    refine OGo.st (fun _ kz => XS.aload X35.here hx rfl (hb hby at_100) rfl rfl kz) ?_
    show OG p e below Φ T35 m 102 #[iv xn, iv xa, iv xb, iv xc, iv 2, iv (xa.toInt8.toInt32), iv (xb.toInt8.toInt32), iv (xc.toInt8.toInt32), rv b26, rv sx35, .unset] [(.ref sx35)]
    refine OGo.st (fun _ kz => XS.ifnullNo X35.here hx rfl (hb hby at_102) rfl kz) ?_
    show OG p e below Φ T35 m 105 #[iv xn, iv xa, iv xb, iv xc, iv 2, iv (xa.toInt8.toInt32), iv (xb.toInt8.toInt32), iv (xc.toInt8.toInt32), rv b26, rv sx35, .unset] []
    refine OGo.st (fun _ kz => XS.aload X35.here hx rfl (hb hby at_105) rfl rfl kz) ?_
    show OG p e below Φ T35 m 107 #[iv xn, iv xa, iv xb, iv xc, iv 2, iv (xa.toInt8.toInt32), iv (xb.toInt8.toInt32), iv (xc.toInt8.toInt32), rv b26, rv sx35, .unset] [(.ref sx35)]
    obtain ⟨_, T39, L39, X39, hQ39, st39⟩ := own_callVi X35 hx hZ hown (ow34 hw) (ow35 hw) (notFace_of_selects (args := #[]) (mvT hZ (ow37 hw))) (ow37 hw) (ow36 hw) (ow8 hw) (ow38 hw) (by decide) (rgle6 l Z a0 hw [] sx35 bx35 cx35 qc (92 : Int32) (120 : Int32) (own_hi (nar .byte (xa.toInt8.toInt32))) (own_lo (nar .byte (xa.toInt8.toInt32))) (own_hi (nar .byte (xb.toInt8.toInt32))) (own_lo (nar .byte (xb.toInt8.toInt32))) T35.heap n0 Zs35 Eq35 Fv35 Fc35 Vq35 (S_cs.ext F36.2) hq) rfl (W := 0) (by decide) (by decide) (by decide) (by decide) Eq35 (pc := 107) (ls := #[iv xn, iv xa, iv xb, iv xc, iv 2, iv (xa.toInt8.toInt32), iv (xb.toInt8.toInt32), iv (xc.toInt8.toInt32), rv b26, rv sx35, .unset]) (stk := [(.ref sx35)]) (by rw [hml]; rfl) (argsL := []) (rest := []) (lenOf pd12 rfl) rfl rfl (Nat.le_of_eq rfl) (hb hby at_107)
    obtain ⟨rfl, Nq39, e39⟩ := hQ39
    have N39 := Fr.app N35 Nq39
    refine OGo.st st39 ?_
    show OG p e below Φ T39 m 110 #[iv xn, iv xa, iv xb, iv xc, iv 2, iv (xa.toInt8.toInt32), iv (xb.toInt8.toInt32), iv (xc.toInt8.toInt32), rv b26, rv sx35, .unset] [(.int 6)]
    refine OGo.st (fun _ kz => XS.iconst X39.here hx rfl (hb hby at_110) kz) ?_
    show OG p e below Φ T39 m 111 #[iv xn, iv xa, iv xb, iv xc, iv 2, iv (xa.toInt8.toInt32), iv (xb.toInt8.toInt32), iv (xc.toInt8.toInt32), rv b26, rv sx35, .unset] [(.int 2), (.int 6)]
    refine OGo.st (fun _ kz => XS.iconst X39.here hx rfl (hb hby at_111) kz) ?_
    show OG p e below Φ T39 m 112 #[iv xn, iv xa, iv xb, iv xc, iv 2, iv (xa.toInt8.toInt32), iv (xb.toInt8.toInt32), iv (xc.toInt8.toInt32), rv b26, rv sx35, .unset] [(.int 2), (.int 2), (.int 6)]
    refine OGo.st (fun _ kz => XS.iload X39.here hx rfl (hb hby at_112) rfl kz) ?_
    show OG p e below Φ T39 m 114 #[iv xn, iv xa, iv xb, iv xc, iv 2, iv (xa.toInt8.toInt32), iv (xb.toInt8.toInt32), iv (xc.toInt8.toInt32), rv b26, rv sx35, .unset] [(.int 2), (.int 2), (.int 2), (.int 6)]
    refine OGo.st (fun _ kz => XS.imul X39.here hx rfl (hb hby at_114) rfl kz) ?_
    show OG p e below Φ T39 m 115 #[iv xn, iv xa, iv xb, iv xc, iv 2, iv (xa.toInt8.toInt32), iv (xb.toInt8.toInt32), iv (xc.toInt8.toInt32), rv b26, rv sx35, .unset] [(.int 4), (.int 2), (.int 6)]
    refine OGo.st (fun _ kz => XS.iadd X39.here hx rfl (hb hby at_115) rfl kz) ?_
    show OG p e below Φ T39 m 116 #[iv xn, iv xa, iv xb, iv xc, iv 2, iv (xa.toInt8.toInt32), iv (xb.toInt8.toInt32), iv (xc.toInt8.toInt32), rv b26, rv sx35, .unset] [(.int 6), (.int 6)]
    refine OGo.st (fun _ kz => XS.icmpYes X39.here hx rfl (pc0 := 116) (pc' := 121) rfl (hb hby at_116) rfl (XT.ii_eq_t (by decide)) (by decide) (by decide) kz) ?_
    show OG p e below Φ T39 m 121 #[iv xn, iv xa, iv xb, iv xc, iv 2, iv (xa.toInt8.toInt32), iv (xb.toInt8.toInt32), iv (xc.toInt8.toInt32), rv b26, rv sx35, .unset] []
    refine OGo.st (fun _ kz => XS.aload X39.here hx rfl (hb hby at_121) rfl rfl kz) ?_
    show OG p e below Φ T39 m 123 #[iv xn, iv xa, iv xb, iv xc, iv 2, iv (xa.toInt8.toInt32), iv (xb.toInt8.toInt32), iv (xc.toInt8.toInt32), rv b26, rv sx35, .unset] [(.ref sx35)]
    refine OGo.st (fun _ kz => XS.iconst X39.here hx rfl (hb hby at_123) kz) ?_
    show OG p e below Φ T39 m 124 #[iv xn, iv xa, iv xb, iv xc, iv 2, iv (xa.toInt8.toInt32), iv (xb.toInt8.toInt32), iv (xc.toInt8.toInt32), rv b26, rv sx35, .unset] [(.int 0), (.ref sx35)]
    obtain ⟨_, T40, L40, X40, hQ40, st40⟩ := own_callVi X39 hx hZ hown (ow44 hw) (ow45 hw) (notFace_of_selects (args := #[]) (mvT hZ (ow47 hw))) (ow47 hw) (ow46 hw) (ow8 hw) (ow48 hw) (by decide) (rgh6_0 l Z a0 hw [] sx35 bx35 cx35 qc vf (92 : Int32) (120 : Int32) (own_hi (nar .byte (xa.toInt8.toInt32))) (own_lo (nar .byte (xa.toInt8.toInt32))) (own_hi (nar .byte (xb.toInt8.toInt32))) (own_lo (nar .byte (xb.toInt8.toInt32))) T35.heap n0 Zs35 Eq35 Fv35 Fc35 Vq35 (S_cs.ext F36.2) hq (S_si.ext F36.2) rvf) e39 (W := 0) (by decide) (by decide) (by decide) (by decide) Eq35 (pc := 124) (ls := #[iv xn, iv xa, iv xb, iv xc, iv 2, iv (xa.toInt8.toInt32), iv (xb.toInt8.toInt32), iv (xc.toInt8.toInt32), rv b26, rv sx35, .unset]) (stk := [(.int 0), (.ref sx35)]) (by rw [hml]; rfl) (argsL := [(.int 0)]) (rest := []) (lenOf pd10 rfl) rfl rfl (Nat.le_of_eq rfl) (hb hby at_124)
    obtain ⟨rfl, Nq40, e40⟩ := hQ40
    have N40 := Fr.app N39 Nq40
    refine OGo.st st40 ?_
    show OG p e below Φ T40 m 127 #[iv xn, iv xa, iv xb, iv xc, iv 2, iv (xa.toInt8.toInt32), iv (xb.toInt8.toInt32), iv (xc.toInt8.toInt32), rv b26, rv sx35, .unset] [(.int 92)]
    refine OGo.st (fun _ kz => XS.bipush X40.here hx rfl (hb hby at_127) kz) ?_
    show OG p e below Φ T40 m 129 #[iv xn, iv xa, iv xb, iv xc, iv 2, iv (xa.toInt8.toInt32), iv (xb.toInt8.toInt32), iv (xc.toInt8.toInt32), rv b26, rv sx35, .unset] [(.int 92), (.int 92)]
    refine OGo.st (fun _ kz => XS.icmpNo X40.here hx rfl (hb hby at_129) rfl (XT.ii_ne_f (by decide)) kz) ?_
    show OG p e below Φ T40 m 132 #[iv xn, iv xa, iv xb, iv xc, iv 2, iv (xa.toInt8.toInt32), iv (xb.toInt8.toInt32), iv (xc.toInt8.toInt32), rv b26, rv sx35, .unset] []
    refine OGo.st (fun _ kz => XS.aload X40.here hx rfl (hb hby at_132) rfl rfl kz) ?_
    show OG p e below Φ T40 m 134 #[iv xn, iv xa, iv xb, iv xc, iv 2, iv (xa.toInt8.toInt32), iv (xb.toInt8.toInt32), iv (xc.toInt8.toInt32), rv b26, rv sx35, .unset] [(.ref sx35)]
    refine OGo.st (fun _ kz => XS.iconst X40.here hx rfl (hb hby at_134) kz) ?_
    show OG p e below Φ T40 m 135 #[iv xn, iv xa, iv xb, iv xc, iv 2, iv (xa.toInt8.toInt32), iv (xb.toInt8.toInt32), iv (xc.toInt8.toInt32), rv b26, rv sx35, .unset] [(.int 1), (.ref sx35)]
    obtain ⟨_, T41, L41, X41, hQ41, st41⟩ := own_callVi X40 hx hZ hown (ow44 hw) (ow45 hw) (notFace_of_selects (args := #[]) (mvT hZ (ow47 hw))) (ow47 hw) (ow46 hw) (ow8 hw) (ow48 hw) (by decide) (rgh6_1 l Z a0 hw [] sx35 bx35 cx35 qc vf (92 : Int32) (120 : Int32) (own_hi (nar .byte (xa.toInt8.toInt32))) (own_lo (nar .byte (xa.toInt8.toInt32))) (own_hi (nar .byte (xb.toInt8.toInt32))) (own_lo (nar .byte (xb.toInt8.toInt32))) T35.heap n0 Zs35 Eq35 Fv35 Fc35 Vq35 (S_cs.ext F36.2) hq (S_si.ext F36.2) rvf) e40 (W := 0) (by decide) (by decide) (by decide) (by decide) Eq35 (pc := 135) (ls := #[iv xn, iv xa, iv xb, iv xc, iv 2, iv (xa.toInt8.toInt32), iv (xb.toInt8.toInt32), iv (xc.toInt8.toInt32), rv b26, rv sx35, .unset]) (stk := [(.int 1), (.ref sx35)]) (by rw [hml]; rfl) (argsL := [(.int 1)]) (rest := []) (lenOf pd10 rfl) rfl rfl (Nat.le_of_eq rfl) (hb hby at_135)
    obtain ⟨rfl, Nq41, e41⟩ := hQ41
    have N41 := Fr.app N40 Nq41
    refine OGo.st st41 ?_
    show OG p e below Φ T41 m 138 #[iv xn, iv xa, iv xb, iv xc, iv 2, iv (xa.toInt8.toInt32), iv (xb.toInt8.toInt32), iv (xc.toInt8.toInt32), rv b26, rv sx35, .unset] [(.int 120)]
    refine OGo.st (fun _ kz => XS.bipush X41.here hx rfl (hb hby at_138) kz) ?_
    show OG p e below Φ T41 m 140 #[iv xn, iv xa, iv xb, iv xc, iv 2, iv (xa.toInt8.toInt32), iv (xb.toInt8.toInt32), iv (xc.toInt8.toInt32), rv b26, rv sx35, .unset] [(.int 120), (.int 120)]
    refine OGo.st (fun _ kz => XS.icmpYes X41.here hx rfl (pc0 := 140) (pc' := 145) rfl (hb hby at_140) rfl (XT.ii_eq_t (by decide)) (by decide) (by decide) kz) ?_
    show OG p e below Φ T41 m 145 #[iv xn, iv xa, iv xb, iv xc, iv 2, iv (xa.toInt8.toInt32), iv (xb.toInt8.toInt32), iv (xc.toInt8.toInt32), rv b26, rv sx35, .unset] []
    refine OGo.st (fun _ kz => XS.iconst X41.here hx rfl (hb hby at_145) kz) ?_
    show OG p e below Φ T41 m 146 #[iv xn, iv xa, iv xb, iv xc, iv 2, iv (xa.toInt8.toInt32), iv (xb.toInt8.toInt32), iv (xc.toInt8.toInt32), rv b26, rv sx35, .unset] [(.int 1)]
    refine OGo.st (fun _ kz => XS.istore X41.here hx rfl (hb hby at_146) rfl (l' := #[iv xn, iv xa, iv xb, iv xc, iv 2, iv (xa.toInt8.toInt32), iv (xb.toInt8.toInt32), iv (xc.toInt8.toInt32), rv b26, rv sx35, iv 1]) rfl kz) ?_
    show OG p e below Φ T41 m 148 #[iv xn, iv xa, iv xb, iv xc, iv 2, iv (xa.toInt8.toInt32), iv (xb.toInt8.toInt32), iv (xc.toInt8.toInt32), rv b26, rv sx35, iv 1] []
    refine OGo.st (fun _ kz => XS.iload X41.here hx rfl (hb hby at_148) rfl kz) ?_
    show OG p e below Φ T41 m 150 #[iv xn, iv xa, iv xb, iv xc, iv 2, iv (xa.toInt8.toInt32), iv (xb.toInt8.toInt32), iv (xc.toInt8.toInt32), rv b26, rv sx35, iv 1] [(.int 2)]
    refine OGo.st (fun _ kz => XS.iconst X41.here hx rfl (hb hby at_150) kz) ?_
    show OG p e below Φ T41 m 151 #[iv xn, iv xa, iv xb, iv xc, iv 2, iv (xa.toInt8.toInt32), iv (xb.toInt8.toInt32), iv (xc.toInt8.toInt32), rv b26, rv sx35, iv 1] [(.int 1), (.int 2)]
    refine OGo.st (fun _ kz => XS.icmpNo X41.here hx rfl (hb hby at_151) rfl (XT.ii_lt_f (by decide)) kz) ?_
    show OG p e below Φ T41 m 154 #[iv xn, iv xa, iv xb, iv xc, iv 2, iv (xa.toInt8.toInt32), iv (xb.toInt8.toInt32), iv (xc.toInt8.toInt32), rv b26, rv sx35, iv 1] []
    refine OGo.st (fun _ kz => XS.iload X41.here hx rfl (hb hby at_154) rfl kz) ?_
    show OG p e below Φ T41 m 156 #[iv xn, iv xa, iv xb, iv xc, iv 2, iv (xa.toInt8.toInt32), iv (xb.toInt8.toInt32), iv (xc.toInt8.toInt32), rv b26, rv sx35, iv 1] [(.int 1)]
    refine OGo.st (fun _ kz => XS.ifNo X41.here hx rfl (hb hby at_156) rfl (XT.i0_eq_f (by decide)) kz) ?_
    show OG p e below Φ T41 m 159 #[iv xn, iv xa, iv xb, iv xc, iv 2, iv (xa.toInt8.toInt32), iv (xb.toInt8.toInt32), iv (xc.toInt8.toInt32), rv b26, rv sx35, iv 1] []
    refine OGo.st (fun _ kz => XS.aload X41.here hx rfl (hb hby at_159) rfl rfl kz) ?_
    show OG p e below Φ T41 m 161 #[iv xn, iv xa, iv xb, iv xc, iv 2, iv (xa.toInt8.toInt32), iv (xb.toInt8.toInt32), iv (xc.toInt8.toInt32), rv b26, rv sx35, iv 1] [(.ref sx35)]
    refine OGo.st (fun _ kz => XS.iconst X41.here hx rfl (hb hby at_161) kz) ?_
    show OG p e below Φ T41 m 162 #[iv xn, iv xa, iv xb, iv xc, iv 2, iv (xa.toInt8.toInt32), iv (xb.toInt8.toInt32), iv (xc.toInt8.toInt32), rv b26, rv sx35, iv 1] [(.int 0), (.ref sx35)]
    refine OGo.st (fun _ kz => XS.iload X41.here hx rfl (hb hby at_162) rfl kz) ?_
    show OG p e below Φ T41 m 164 #[iv xn, iv xa, iv xb, iv xc, iv 2, iv (xa.toInt8.toInt32), iv (xb.toInt8.toInt32), iv (xc.toInt8.toInt32), rv b26, rv sx35, iv 1] [(.int (xa.toInt8.toInt32)), (.int 0), (.ref sx35)]
    obtain ⟨_, T42, L42, X42, hQ42, st42⟩ := own_callSt X41 hx hZ hown (ow68 hw) (ow69 hw) (ow70 hw) (ow71 hw) (by decide) (rpo6_0 l Z a0 hw [] (xa.toInt8) sx35 bx35 cx35 qc vf (92 : Int32) (120 : Int32) (own_hi (nar .byte (xb.toInt8.toInt32))) (own_lo (nar .byte (xb.toInt8.toInt32))) T35.heap n0 Zs35 Eq35 Fv35 Fc35 Vq35 (S_cs.ext F36.2) hq (S_si.ext F36.2) rvf) e41 (W := 0) (by decide) (by decide) (by decide) (by decide) (pc := 164) (ls := #[iv xn, iv xa, iv xb, iv xc, iv 2, iv (xa.toInt8.toInt32), iv (xb.toInt8.toInt32), iv (xc.toInt8.toInt32), rv b26, rv sx35, iv 1]) (stk := [(.int (xa.toInt8.toInt32)), (.int 0), (.ref sx35)]) (by rw [hml]; rfl) (argsL := [(.ref sx35), (.int 0), (.int (xa.toInt8.toInt32))]) (rest := []) (lenOf pd13 rfl) rfl rfl (Nat.le_of_eq rfl) (hb hby at_164)
    obtain ⟨rfl, Nq42, e42⟩ := hQ42
    have N42 := Fr.app N41 Nq42
    refine OGo.st st42 ?_
    show OG p e below Φ T42 m 167 #[iv xn, iv xa, iv xb, iv xc, iv 2, iv (xa.toInt8.toInt32), iv (xb.toInt8.toInt32), iv (xc.toInt8.toInt32), rv b26, rv sx35, iv 1] [(.int 1)]
    refine OGo.st (fun _ kz => XS.ifNo X42.here hx rfl (hb hby at_167) rfl (XT.i0_eq_f (by decide)) kz) ?_
    show OG p e below Φ T42 m 170 #[iv xn, iv xa, iv xb, iv xc, iv 2, iv (xa.toInt8.toInt32), iv (xb.toInt8.toInt32), iv (xc.toInt8.toInt32), rv b26, rv sx35, iv 1] []
    refine OGo.st (fun _ kz => XS.iconst X42.here hx rfl (hb hby at_170) kz) ?_
    show OG p e below Φ T42 m 171 #[iv xn, iv xa, iv xb, iv xc, iv 2, iv (xa.toInt8.toInt32), iv (xb.toInt8.toInt32), iv (xc.toInt8.toInt32), rv b26, rv sx35, iv 1] [(.int 1)]
    refine OGo.st (fun _ kz => XS.goto X42.here hx rfl (pc0 := 171) (pc' := 175) rfl (hb hby at_171) (by decide) (by decide) kz) ?_
    show OG p e below Φ T42 m 175 #[iv xn, iv xa, iv xb, iv xc, iv 2, iv (xa.toInt8.toInt32), iv (xb.toInt8.toInt32), iv (xc.toInt8.toInt32), rv b26, rv sx35, iv 1] [(.int 1)]
    refine OGo.st (fun _ kz => XS.istore X42.here hx rfl (hb hby at_175) rfl (l' := #[iv xn, iv xa, iv xb, iv xc, iv 2, iv (xa.toInt8.toInt32), iv (xb.toInt8.toInt32), iv (xc.toInt8.toInt32), rv b26, rv sx35, iv 1]) rfl kz) ?_
    show OG p e below Φ T42 m 177 #[iv xn, iv xa, iv xb, iv xc, iv 2, iv (xa.toInt8.toInt32), iv (xb.toInt8.toInt32), iv (xc.toInt8.toInt32), rv b26, rv sx35, iv 1] []
    refine OGo.st (fun _ kz => XS.iload X42.here hx rfl (hb hby at_177) rfl kz) ?_
    show OG p e below Φ T42 m 179 #[iv xn, iv xa, iv xb, iv xc, iv 2, iv (xa.toInt8.toInt32), iv (xb.toInt8.toInt32), iv (xc.toInt8.toInt32), rv b26, rv sx35, iv 1] [(.int 2)]
    refine OGo.st (fun _ kz => XS.iconst X42.here hx rfl (hb hby at_179) kz) ?_
    show OG p e below Φ T42 m 180 #[iv xn, iv xa, iv xb, iv xc, iv 2, iv (xa.toInt8.toInt32), iv (xb.toInt8.toInt32), iv (xc.toInt8.toInt32), rv b26, rv sx35, iv 1] [(.int 2), (.int 2)]
    refine OGo.st (fun _ kz => XS.icmpNo X42.here hx rfl (hb hby at_180) rfl (XT.ii_lt_f (by decide)) kz) ?_
    show OG p e below Φ T42 m 183 #[iv xn, iv xa, iv xb, iv xc, iv 2, iv (xa.toInt8.toInt32), iv (xb.toInt8.toInt32), iv (xc.toInt8.toInt32), rv b26, rv sx35, iv 1] []
    refine OGo.st (fun _ kz => XS.iload X42.here hx rfl (hb hby at_183) rfl kz) ?_
    show OG p e below Φ T42 m 185 #[iv xn, iv xa, iv xb, iv xc, iv 2, iv (xa.toInt8.toInt32), iv (xb.toInt8.toInt32), iv (xc.toInt8.toInt32), rv b26, rv sx35, iv 1] [(.int 1)]
    refine OGo.st (fun _ kz => XS.ifNo X42.here hx rfl (hb hby at_185) rfl (XT.i0_eq_f (by decide)) kz) ?_
    show OG p e below Φ T42 m 188 #[iv xn, iv xa, iv xb, iv xc, iv 2, iv (xa.toInt8.toInt32), iv (xb.toInt8.toInt32), iv (xc.toInt8.toInt32), rv b26, rv sx35, iv 1] []
    refine OGo.st (fun _ kz => XS.aload X42.here hx rfl (hb hby at_188) rfl rfl kz) ?_
    show OG p e below Φ T42 m 190 #[iv xn, iv xa, iv xb, iv xc, iv 2, iv (xa.toInt8.toInt32), iv (xb.toInt8.toInt32), iv (xc.toInt8.toInt32), rv b26, rv sx35, iv 1] [(.ref sx35)]
    refine OGo.st (fun _ kz => XS.iconst X42.here hx rfl (hb hby at_190) kz) ?_
    show OG p e below Φ T42 m 191 #[iv xn, iv xa, iv xb, iv xc, iv 2, iv (xa.toInt8.toInt32), iv (xb.toInt8.toInt32), iv (xc.toInt8.toInt32), rv b26, rv sx35, iv 1] [(.int 1), (.ref sx35)]
    refine OGo.st (fun _ kz => XS.iload X42.here hx rfl (hb hby at_191) rfl kz) ?_
    show OG p e below Φ T42 m 193 #[iv xn, iv xa, iv xb, iv xc, iv 2, iv (xa.toInt8.toInt32), iv (xb.toInt8.toInt32), iv (xc.toInt8.toInt32), rv b26, rv sx35, iv 1] [(.int (xb.toInt8.toInt32)), (.int 1), (.ref sx35)]
    obtain ⟨_, T43, L43, X43, hQ43, st43⟩ := own_callSt X42 hx hZ hown (ow68 hw) (ow69 hw) (ow70 hw) (ow71 hw) (by decide) (rpo6_1 l Z a0 hw [] (xb.toInt8) sx35 bx35 cx35 qc vf (92 : Int32) (120 : Int32) (own_hi (nar .byte (xa.toInt8.toInt32))) (own_lo (nar .byte (xa.toInt8.toInt32))) T35.heap n0 Zs35 Eq35 Fv35 Fc35 Vq35 (S_cs.ext F36.2) hq (S_si.ext F36.2) rvf) e42 (W := 0) (by decide) (by decide) (by decide) (by decide) (pc := 193) (ls := #[iv xn, iv xa, iv xb, iv xc, iv 2, iv (xa.toInt8.toInt32), iv (xb.toInt8.toInt32), iv (xc.toInt8.toInt32), rv b26, rv sx35, iv 1]) (stk := [(.int (xb.toInt8.toInt32)), (.int 1), (.ref sx35)]) (by rw [hml]; rfl) (argsL := [(.ref sx35), (.int 1), (.int (xb.toInt8.toInt32))]) (rest := []) (lenOf pd13 rfl) rfl rfl (Nat.le_of_eq rfl) (hb hby at_193)
    obtain ⟨rfl, Nq43, e43⟩ := hQ43
    have N43 := Fr.app N42 Nq43
    refine OGo.st st43 ?_
    show OG p e below Φ T43 m 196 #[iv xn, iv xa, iv xb, iv xc, iv 2, iv (xa.toInt8.toInt32), iv (xb.toInt8.toInt32), iv (xc.toInt8.toInt32), rv b26, rv sx35, iv 1] [(.int 1)]
    refine OGo.st (fun _ kz => XS.ifNo X43.here hx rfl (hb hby at_196) rfl (XT.i0_eq_f (by decide)) kz) ?_
    show OG p e below Φ T43 m 199 #[iv xn, iv xa, iv xb, iv xc, iv 2, iv (xa.toInt8.toInt32), iv (xb.toInt8.toInt32), iv (xc.toInt8.toInt32), rv b26, rv sx35, iv 1] []
    refine OGo.st (fun _ kz => XS.iconst X43.here hx rfl (hb hby at_199) kz) ?_
    show OG p e below Φ T43 m 200 #[iv xn, iv xa, iv xb, iv xc, iv 2, iv (xa.toInt8.toInt32), iv (xb.toInt8.toInt32), iv (xc.toInt8.toInt32), rv b26, rv sx35, iv 1] [(.int 1)]
    refine OGo.st (fun _ kz => XS.goto X43.here hx rfl (pc0 := 200) (pc' := 204) rfl (hb hby at_200) (by decide) (by decide) kz) ?_
    show OG p e below Φ T43 m 204 #[iv xn, iv xa, iv xb, iv xc, iv 2, iv (xa.toInt8.toInt32), iv (xb.toInt8.toInt32), iv (xc.toInt8.toInt32), rv b26, rv sx35, iv 1] [(.int 1)]
    refine OGo.st (fun _ kz => XS.istore X43.here hx rfl (hb hby at_204) rfl (l' := #[iv xn, iv xa, iv xb, iv xc, iv 2, iv (xa.toInt8.toInt32), iv (xb.toInt8.toInt32), iv (xc.toInt8.toInt32), rv b26, rv sx35, iv 1]) rfl kz) ?_
    show OG p e below Φ T43 m 206 #[iv xn, iv xa, iv xb, iv xc, iv 2, iv (xa.toInt8.toInt32), iv (xb.toInt8.toInt32), iv (xc.toInt8.toInt32), rv b26, rv sx35, iv 1] []
    refine OGo.st (fun _ kz => XS.iload X43.here hx rfl (hb hby at_206) rfl kz) ?_
    show OG p e below Φ T43 m 208 #[iv xn, iv xa, iv xb, iv xc, iv 2, iv (xa.toInt8.toInt32), iv (xb.toInt8.toInt32), iv (xc.toInt8.toInt32), rv b26, rv sx35, iv 1] [(.int 2)]
    refine OGo.st (fun _ kz => XS.iconst X43.here hx rfl (hb hby at_208) kz) ?_
    show OG p e below Φ T43 m 209 #[iv xn, iv xa, iv xb, iv xc, iv 2, iv (xa.toInt8.toInt32), iv (xb.toInt8.toInt32), iv (xc.toInt8.toInt32), rv b26, rv sx35, iv 1] [(.int 3), (.int 2)]
    refine OGo.st (fun _ kz => XS.icmpYes X43.here hx rfl (pc0 := 209) (pc' := 235) rfl (hb hby at_209) rfl (XT.ii_lt_t (by decide)) (by decide) (by decide) kz) ?_
    show OG p e below Φ T43 m 235 #[iv xn, iv xa, iv xb, iv xc, iv 2, iv (xa.toInt8.toInt32), iv (xb.toInt8.toInt32), iv (xc.toInt8.toInt32), rv b26, rv sx35, iv 1] []
    refine OGo.st (fun _ kz => XS.iload X43.here hx rfl (hb hby at_235) rfl kz) ?_
    show OG p e below Φ T43 m 237 #[iv xn, iv xa, iv xb, iv xc, iv 2, iv (xa.toInt8.toInt32), iv (xb.toInt8.toInt32), iv (xc.toInt8.toInt32), rv b26, rv sx35, iv 1] [(.int 1)]
    refine OGo.fin X43 hlk (v := (some (.int 1))) (fun h => by rw [hret] at h; cases h) (by decide) (by decide) (fun fs hr => X43.ireturnOut hx hret rfl (by simp) (hb hby at_237) hr) fun U eU hF => hΦ _ _ _ ?_ hF
    rw [eU, e43]
    show Q_rm0 Z xn xa xb xc ah ch qc vf h0 n0 _ _ _
    exact ⟨rfl, N43⟩
  · rw [hk1]
    show OG p e below Φ s₁ m 17 #[iv xn, iv xa, iv xb, iv xc, iv 3, iv (xa.toInt8.toInt32), iv (xb.toInt8.toInt32), iv (xc.toInt8.toInt32), .unset, .unset, .unset] []
    refine OGo.st (fun _ kz => XS.iload X0.here hx rfl (hb hby at_17) rfl kz) ?_
    show OG p e below Φ s₁ m 19 #[iv xn, iv xa, iv xb, iv xc, iv 3, iv (xa.toInt8.toInt32), iv (xb.toInt8.toInt32), iv (xc.toInt8.toInt32), .unset, .unset, .unset] [(.int 3)]
    refine OGo.st (fun _ kz => XS.ifYes X0.here hx rfl (pc0 := 19) (pc' := 30) rfl (hb hby at_19) rfl (XT.i0_ne_t (by decide)) (by decide) (by decide) kz) ?_
    show OG p e below Φ s₁ m 30 #[iv xn, iv xa, iv xb, iv xc, iv 3, iv (xa.toInt8.toInt32), iv (xb.toInt8.toInt32), iv (xc.toInt8.toInt32), .unset, .unset, .unset] []
    refine OGo.st (fun _ kz => XS.iload X0.here hx rfl (hb hby at_30) rfl kz) ?_
    show OG p e below Φ s₁ m 32 #[iv xn, iv xa, iv xb, iv xc, iv 3, iv (xa.toInt8.toInt32), iv (xb.toInt8.toInt32), iv (xc.toInt8.toInt32), .unset, .unset, .unset] [(.int 3)]
    refine OGo.st (fun _ kz => XS.iconst X0.here hx rfl (hb hby at_32) kz) ?_
    show OG p e below Φ s₁ m 33 #[iv xn, iv xa, iv xb, iv xc, iv 3, iv (xa.toInt8.toInt32), iv (xb.toInt8.toInt32), iv (xc.toInt8.toInt32), .unset, .unset, .unset] [(.int 1), (.int 3)]
    refine OGo.st (fun _ kz => XS.icmpYes X0.here hx rfl (pc0 := 33) (pc' := 49) rfl (hb hby at_33) rfl (XT.ii_ne_t (by decide)) (by decide) (by decide) kz) ?_
    show OG p e below Φ s₁ m 49 #[iv xn, iv xa, iv xb, iv xc, iv 3, iv (xa.toInt8.toInt32), iv (xb.toInt8.toInt32), iv (xc.toInt8.toInt32), .unset, .unset, .unset] []
    refine OGo.st (fun _ kz => XS.iload X0.here hx rfl (hb hby at_49) rfl kz) ?_
    show OG p e below Φ s₁ m 51 #[iv xn, iv xa, iv xb, iv xc, iv 3, iv (xa.toInt8.toInt32), iv (xb.toInt8.toInt32), iv (xc.toInt8.toInt32), .unset, .unset, .unset] [(.int 3)]
    refine OGo.st (fun _ kz => XS.iconst X0.here hx rfl (hb hby at_51) kz) ?_
    show OG p e below Φ s₁ m 52 #[iv xn, iv xa, iv xb, iv xc, iv 3, iv (xa.toInt8.toInt32), iv (xb.toInt8.toInt32), iv (xc.toInt8.toInt32), .unset, .unset, .unset] [(.int 2), (.int 3)]
    refine OGo.st (fun _ kz => XS.icmpYes X0.here hx rfl (pc0 := 52) (pc' := 73) rfl (hb hby at_52) rfl (XT.ii_ne_t (by decide)) (by decide) (by decide) kz) ?_
    show OG p e below Φ s₁ m 73 #[iv xn, iv xa, iv xb, iv xc, iv 3, iv (xa.toInt8.toInt32), iv (xb.toInt8.toInt32), iv (xc.toInt8.toInt32), .unset, .unset, .unset] []
    refine OGo.st (fun _ kz => XS.iconst X0.here hx rfl (hb hby at_73) kz) ?_
    show OG p e below Φ s₁ m 74 #[iv xn, iv xa, iv xb, iv xc, iv 3, iv (xa.toInt8.toInt32), iv (xb.toInt8.toInt32), iv (xc.toInt8.toInt32), .unset, .unset, .unset] [(.int 3)]
    obtain ⟨T44, h44, c44, X44, e44, E44, Ar44, st44⟩ := newP (aty := .byte) X0 hx hZ (ow0 hw) e0 (g := (mkF m 74 #[iv xn, iv xa, iv xb, iv xc, iv 3, iv (xa.toInt8.toInt32), iv (xb.toInt8.toInt32), iv (xc.toInt8.toInt32), .unset, .unset, .unset] [(.int 3)])) rfl (hb hby at_74) rfl (by decide) (cap := 3) (by decide) (by decide) (by decide) (by decide)
    obtain ⟨b44, g44⟩ : ∃ z, z = h0.size := ⟨_, rfl⟩
    rw [← g44] at Ar44 st44
    have ne44_ah : ah ≠ b44 := by rw [g44]; exact Nat.ne_of_lt V_h.lt
    have F45 := O_0.ext E44
    have F46 := V_h.ext E44
    have gb44 : n0 ≤ b44 := Nat.le_trans Z0 (Nat.le_of_eq g44.symm)
    have Zs44 : n0 ≤ h44.size := Nat.le_trans Z0 E44.1
    have V44 : Arv Z h44 b44 c44 .byte (3 : Int32) [(.int (0 : Int32)), (.int (0 : Int32)), (.int (0 : Int32))] (.int (0 : Int32)) := (Arv.new Ar44 (by decide)).pad (pad_rep [] _ 3)
    refine OGo.st st44 ?_
    show OG p e below Φ T44 m 76 #[iv xn, iv xa, iv xb, iv xc, iv 3, iv (xa.toInt8.toInt32), iv (xb.toInt8.toInt32), iv (xc.toInt8.toInt32), .unset, .unset, .unset] [(.ref b44)]
    refine OGo.st (fun _ kz => XS.dup X44.here hx rfl (hb hby at_76) rfl rfl kz) ?_
    show OG p e below Φ T44 m 77 #[iv xn, iv xa, iv xb, iv xc, iv 3, iv (xa.toInt8.toInt32), iv (xb.toInt8.toInt32), iv (xc.toInt8.toInt32), .unset, .unset, .unset] [(.ref b44), (.ref b44)]
    refine OGo.st (fun _ kz => XS.iconst X44.here hx rfl (hb hby at_77) kz) ?_
    show OG p e below Φ T44 m 78 #[iv xn, iv xa, iv xb, iv xc, iv 3, iv (xa.toInt8.toInt32), iv (xb.toInt8.toInt32), iv (xc.toInt8.toInt32), .unset, .unset, .unset] [(.int 0), (.ref b44), (.ref b44)]
    refine OGo.st (fun _ kz => XS.iload X44.here hx rfl (hb hby at_78) rfl kz) ?_
    show OG p e below Φ T44 m 80 #[iv xn, iv xa, iv xb, iv xc, iv 3, iv (xa.toInt8.toInt32), iv (xb.toInt8.toInt32), iv (xc.toInt8.toInt32), .unset, .unset, .unset] [(.int (xa.toInt8.toInt32)), (.int 0), (.ref b44), (.ref b44)]
    obtain ⟨cl47, Aq47, Cq47, S47, M47, H47, G47⟩ := id V44
    have in47 : ¬ ((0 : Int32) < 0 ∨ cl47.slots.size ≤ (0 : Int32).toNatClampNeg) := inb_of S47 ⟨by decide, by decide⟩
    obtain ⟨T47, h47, X47, e47, W47, st47⟩ := stB X44 hx hZ e44 Aq47 in47 (g := (mkF m 80 #[iv xn, iv xa, iv xb, iv xc, iv 3, iv (xa.toInt8.toInt32), iv (xb.toInt8.toInt32), iv (xc.toInt8.toInt32), .unset, .unset, .unset] [(.int (xa.toInt8.toInt32)), (.int 0), (.ref b44), (.ref b44)])) rfl rfl (hb hby at_80)
    have W47 : Wr h44 h47 b44 (0 : Int32).toNatClampNeg (.int (nar .byte (xa.toInt8.toInt32))) := W47
    have F48 := F45.wr W47 gb44
    have F49 := F46.other W47 ne44_ah
    have V47 : Arv Z h47 b44 c44 .byte (3 : Int32) [(.int (nar .byte (xa.toInt8.toInt32))), (.int (0 : Int32)), (.int (0 : Int32))] (.int (0 : Int32)) := Arv.set Aq47 Cq47 S47 M47 H47 G47 (fits_nar_byte _) W47 0 (by decide) (by show 0 < 3; decide)
    have N47 := Fr.snoc X47 N0 gb44
    have Zs47 : n0 ≤ h47.size := by rw [W47.size]; exact Zs44
    refine OGo.st st47 ?_
    show OG p e below Φ T47 m 81 #[iv xn, iv xa, iv xb, iv xc, iv 3, iv (xa.toInt8.toInt32), iv (xb.toInt8.toInt32), iv (xc.toInt8.toInt32), .unset, .unset, .unset] [(.ref b44)]
    refine OGo.st (fun _ kz => XS.dup X47.here hx rfl (hb hby at_81) rfl rfl kz) ?_
    show OG p e below Φ T47 m 82 #[iv xn, iv xa, iv xb, iv xc, iv 3, iv (xa.toInt8.toInt32), iv (xb.toInt8.toInt32), iv (xc.toInt8.toInt32), .unset, .unset, .unset] [(.ref b44), (.ref b44)]
    refine OGo.st (fun _ kz => XS.iconst X47.here hx rfl (hb hby at_82) kz) ?_
    show OG p e below Φ T47 m 83 #[iv xn, iv xa, iv xb, iv xc, iv 3, iv (xa.toInt8.toInt32), iv (xb.toInt8.toInt32), iv (xc.toInt8.toInt32), .unset, .unset, .unset] [(.int 1), (.ref b44), (.ref b44)]
    refine OGo.st (fun _ kz => XS.iload X47.here hx rfl (hb hby at_83) rfl kz) ?_
    show OG p e below Φ T47 m 85 #[iv xn, iv xa, iv xb, iv xc, iv 3, iv (xa.toInt8.toInt32), iv (xb.toInt8.toInt32), iv (xc.toInt8.toInt32), .unset, .unset, .unset] [(.int (xb.toInt8.toInt32)), (.int 1), (.ref b44), (.ref b44)]
    obtain ⟨cl50, Aq50, Cq50, S50, M50, H50, G50⟩ := id V47
    have in50 : ¬ ((1 : Int32) < 0 ∨ cl50.slots.size ≤ (1 : Int32).toNatClampNeg) := inb_of S50 ⟨by decide, by decide⟩
    obtain ⟨T50, h50, X50, e50, W50, st50⟩ := stB X47 hx hZ e47 Aq50 in50 (g := (mkF m 85 #[iv xn, iv xa, iv xb, iv xc, iv 3, iv (xa.toInt8.toInt32), iv (xb.toInt8.toInt32), iv (xc.toInt8.toInt32), .unset, .unset, .unset] [(.int (xb.toInt8.toInt32)), (.int 1), (.ref b44), (.ref b44)])) rfl rfl (hb hby at_85)
    have W50 : Wr h47 h50 b44 (1 : Int32).toNatClampNeg (.int (nar .byte (xb.toInt8.toInt32))) := W50
    have F51 := F48.wr W50 gb44
    have F52 := F49.other W50 ne44_ah
    have V50 : Arv Z h50 b44 c44 .byte (3 : Int32) [(.int (nar .byte (xa.toInt8.toInt32))), (.int (nar .byte (xb.toInt8.toInt32))), (.int (0 : Int32))] (.int (0 : Int32)) := Arv.set Aq50 Cq50 S50 M50 H50 G50 (fits_nar_byte _) W50 1 (by decide) (by show 1 < 3; decide)
    have N50 := Fr.snoc X50 N47 gb44
    have Zs50 : n0 ≤ h50.size := by rw [W50.size]; exact Zs47
    refine OGo.st st50 ?_
    show OG p e below Φ T50 m 86 #[iv xn, iv xa, iv xb, iv xc, iv 3, iv (xa.toInt8.toInt32), iv (xb.toInt8.toInt32), iv (xc.toInt8.toInt32), .unset, .unset, .unset] [(.ref b44)]
    refine OGo.st (fun _ kz => XS.dup X50.here hx rfl (hb hby at_86) rfl rfl kz) ?_
    show OG p e below Φ T50 m 87 #[iv xn, iv xa, iv xb, iv xc, iv 3, iv (xa.toInt8.toInt32), iv (xb.toInt8.toInt32), iv (xc.toInt8.toInt32), .unset, .unset, .unset] [(.ref b44), (.ref b44)]
    refine OGo.st (fun _ kz => XS.iconst X50.here hx rfl (hb hby at_87) kz) ?_
    show OG p e below Φ T50 m 88 #[iv xn, iv xa, iv xb, iv xc, iv 3, iv (xa.toInt8.toInt32), iv (xb.toInt8.toInt32), iv (xc.toInt8.toInt32), .unset, .unset, .unset] [(.int 2), (.ref b44), (.ref b44)]
    refine OGo.st (fun _ kz => XS.iload X50.here hx rfl (hb hby at_88) rfl kz) ?_
    show OG p e below Φ T50 m 90 #[iv xn, iv xa, iv xb, iv xc, iv 3, iv (xa.toInt8.toInt32), iv (xb.toInt8.toInt32), iv (xc.toInt8.toInt32), .unset, .unset, .unset] [(.int (xc.toInt8.toInt32)), (.int 2), (.ref b44), (.ref b44)]
    obtain ⟨cl53, Aq53, Cq53, S53, M53, H53, G53⟩ := id V50
    have in53 : ¬ ((2 : Int32) < 0 ∨ cl53.slots.size ≤ (2 : Int32).toNatClampNeg) := inb_of S53 ⟨by decide, by decide⟩
    obtain ⟨T53, h53, X53, e53, W53, st53⟩ := stB X50 hx hZ e50 Aq53 in53 (g := (mkF m 90 #[iv xn, iv xa, iv xb, iv xc, iv 3, iv (xa.toInt8.toInt32), iv (xb.toInt8.toInt32), iv (xc.toInt8.toInt32), .unset, .unset, .unset] [(.int (xc.toInt8.toInt32)), (.int 2), (.ref b44), (.ref b44)])) rfl rfl (hb hby at_90)
    have W53 : Wr h50 h53 b44 (2 : Int32).toNatClampNeg (.int (nar .byte (xc.toInt8.toInt32))) := W53
    have F54 := F51.wr W53 gb44
    have F55 := F52.other W53 ne44_ah
    have V53 : Arv Z h53 b44 c44 .byte (3 : Int32) [(.int (nar .byte (xa.toInt8.toInt32))), (.int (nar .byte (xb.toInt8.toInt32))), (.int (nar .byte (xc.toInt8.toInt32)))] (.int (0 : Int32)) := Arv.set Aq53 Cq53 S53 M53 H53 G53 (fits_nar_byte _) W53 2 (by decide) (by show 2 < 3; decide)
    have N53 := Fr.snoc X53 N50 gb44
    have Zs53 : n0 ≤ h53.size := by rw [W53.size]; exact Zs50
    refine OGo.st st53 ?_
    show OG p e below Φ T53 m 91 #[iv xn, iv xa, iv xb, iv xc, iv 3, iv (xa.toInt8.toInt32), iv (xb.toInt8.toInt32), iv (xc.toInt8.toInt32), .unset, .unset, .unset] [(.ref b44)]
    refine OGo.st (fun _ kz => XS.astore X53.here hx rfl (hb hby at_91) rfl rfl (l' := #[iv xn, iv xa, iv xb, iv xc, iv 3, iv (xa.toInt8.toInt32), iv (xb.toInt8.toInt32), iv (xc.toInt8.toInt32), rv b44, .unset, .unset]) rfl kz) ?_
    show OG p e below Φ T53 m 93 #[iv xn, iv xa, iv xb, iv xc, iv 3, iv (xa.toInt8.toInt32), iv (xb.toInt8.toInt32), iv (xc.toInt8.toInt32), rv b44, .unset, .unset] []
    refine OGo.st (fun _ kz => XS.aload X53.here hx rfl (hb hby at_93) rfl rfl kz) ?_
    show OG p e below Φ T53 m 95 #[iv xn, iv xa, iv xb, iv xc, iv 3, iv (xa.toInt8.toInt32), iv (xb.toInt8.toInt32), iv (xc.toInt8.toInt32), rv b44, .unset, .unset] [(.ref b44)]
    obtain ⟨_, T56, L56, X56, hQ56, st56⟩ := own_callSt X53 hx hZ hown (ow1 hw) (ow2 hw) (ow3 hw) (ow4 hw) (by decide) (rof3 l Z a0 hw [] b44 c44 (nar .byte (xa.toInt8.toInt32)) (nar .byte (xb.toInt8.toInt32)) (nar .byte (xc.toInt8.toInt32)) ah ch qc h53 n0 Zs53 F54 V53 F55 S_h S_cs hq) e53 (W := 0) (by decide) (by decide) (by decide) (by decide) (pc := 95) (ls := #[iv xn, iv xa, iv xb, iv xc, iv 3, iv (xa.toInt8.toInt32), iv (xb.toInt8.toInt32), iv (xc.toInt8.toInt32), rv b44, .unset, .unset]) (stk := [(.ref b44)]) (by rw [hml]; rfl) (argsL := [(.ref b44)]) (rest := []) (lenOf pd11 rfl) rfl rfl (Nat.le_of_eq rfl) (hb hby at_95)
    obtain ⟨sx56, bx56, cx56, rfl, Nq56, Kq56, Eq56, Fv56, Fc56, Vq56, hz56, hy56, nn56⟩ := hQ56
    have N56 := Fr.app N53 Nq56
    have Zs56 : n0 ≤ T56.heap.size := Nat.le_trans Zs53 Kq56.1
    have F57 := F54.keep Kq56 all0
    have F58 := F55.keep Kq56 nin0
    have F59 := V53.keep Kq56 nin0
    refine OGo.st st56 ?_
    show OG p e below Φ T56 m 98 #[iv xn, iv xa, iv xb, iv xc, iv 3, iv (xa.toInt8.toInt32), iv (xb.toInt8.toInt32), iv (xc.toInt8.toInt32), rv b44, .unset, .unset] [(.ref sx56)]
    refine OGo.st (fun _ kz => XS.astore X56.here hx rfl (hb hby at_98) rfl rfl (l' := #[iv xn, iv xa, iv xb, iv xc, iv 3, iv (xa.toInt8.toInt32), iv (xb.toInt8.toInt32), iv (xc.toInt8.toInt32), rv b44, rv sx56, .unset]) rfl kz) ?_
    show OG p e below Φ T56 m 100 #[iv xn, iv xa, iv xb, iv xc, iv 3, iv (xa.toInt8.toInt32), iv (xb.toInt8.toInt32), iv (xc.toInt8.toInt32), rv b44, rv sx56, .unset] []
    refine OGo.st (fun _ kz => XS.aload X56.here hx rfl (hb hby at_100) rfl rfl kz) ?_
    show OG p e below Φ T56 m 102 #[iv xn, iv xa, iv xb, iv xc, iv 3, iv (xa.toInt8.toInt32), iv (xb.toInt8.toInt32), iv (xc.toInt8.toInt32), rv b44, rv sx56, .unset] [(.ref sx56)]
    refine OGo.st (fun _ kz => XS.ifnullNo X56.here hx rfl (hb hby at_102) rfl kz) ?_
    show OG p e below Φ T56 m 105 #[iv xn, iv xa, iv xb, iv xc, iv 3, iv (xa.toInt8.toInt32), iv (xb.toInt8.toInt32), iv (xc.toInt8.toInt32), rv b44, rv sx56, .unset] []
    refine OGo.st (fun _ kz => XS.aload X56.here hx rfl (hb hby at_105) rfl rfl kz) ?_
    show OG p e below Φ T56 m 107 #[iv xn, iv xa, iv xb, iv xc, iv 3, iv (xa.toInt8.toInt32), iv (xb.toInt8.toInt32), iv (xc.toInt8.toInt32), rv b44, rv sx56, .unset] [(.ref sx56)]
    obtain ⟨_, T60, L60, X60, hQ60, st60⟩ := own_callVi X56 hx hZ hown (ow34 hw) (ow35 hw) (notFace_of_selects (args := #[]) (mvT hZ (ow37 hw))) (ow37 hw) (ow36 hw) (ow8 hw) (ow38 hw) (by decide) (rgle8 l Z a0 hw [] sx56 bx56 cx56 qc (92 : Int32) (120 : Int32) (own_hi (nar .byte (xa.toInt8.toInt32))) (own_lo (nar .byte (xa.toInt8.toInt32))) (own_hi (nar .byte (xb.toInt8.toInt32))) (own_lo (nar .byte (xb.toInt8.toInt32))) (own_hi (nar .byte (xc.toInt8.toInt32))) (own_lo (nar .byte (xc.toInt8.toInt32))) T56.heap n0 Zs56 Eq56 Fv56 Fc56 Vq56 (S_cs.ext F57.2) hq) rfl (W := 0) (by decide) (by decide) (by decide) (by decide) Eq56 (pc := 107) (ls := #[iv xn, iv xa, iv xb, iv xc, iv 3, iv (xa.toInt8.toInt32), iv (xb.toInt8.toInt32), iv (xc.toInt8.toInt32), rv b44, rv sx56, .unset]) (stk := [(.ref sx56)]) (by rw [hml]; rfl) (argsL := []) (rest := []) (lenOf pd12 rfl) rfl rfl (Nat.le_of_eq rfl) (hb hby at_107)
    obtain ⟨rfl, Nq60, e60⟩ := hQ60
    have N60 := Fr.app N56 Nq60
    refine OGo.st st60 ?_
    show OG p e below Φ T60 m 110 #[iv xn, iv xa, iv xb, iv xc, iv 3, iv (xa.toInt8.toInt32), iv (xb.toInt8.toInt32), iv (xc.toInt8.toInt32), rv b44, rv sx56, .unset] [(.int 8)]
    refine OGo.st (fun _ kz => XS.iconst X60.here hx rfl (hb hby at_110) kz) ?_
    show OG p e below Φ T60 m 111 #[iv xn, iv xa, iv xb, iv xc, iv 3, iv (xa.toInt8.toInt32), iv (xb.toInt8.toInt32), iv (xc.toInt8.toInt32), rv b44, rv sx56, .unset] [(.int 2), (.int 8)]
    refine OGo.st (fun _ kz => XS.iconst X60.here hx rfl (hb hby at_111) kz) ?_
    show OG p e below Φ T60 m 112 #[iv xn, iv xa, iv xb, iv xc, iv 3, iv (xa.toInt8.toInt32), iv (xb.toInt8.toInt32), iv (xc.toInt8.toInt32), rv b44, rv sx56, .unset] [(.int 2), (.int 2), (.int 8)]
    refine OGo.st (fun _ kz => XS.iload X60.here hx rfl (hb hby at_112) rfl kz) ?_
    show OG p e below Φ T60 m 114 #[iv xn, iv xa, iv xb, iv xc, iv 3, iv (xa.toInt8.toInt32), iv (xb.toInt8.toInt32), iv (xc.toInt8.toInt32), rv b44, rv sx56, .unset] [(.int 3), (.int 2), (.int 2), (.int 8)]
    refine OGo.st (fun _ kz => XS.imul X60.here hx rfl (hb hby at_114) rfl kz) ?_
    show OG p e below Φ T60 m 115 #[iv xn, iv xa, iv xb, iv xc, iv 3, iv (xa.toInt8.toInt32), iv (xb.toInt8.toInt32), iv (xc.toInt8.toInt32), rv b44, rv sx56, .unset] [(.int 6), (.int 2), (.int 8)]
    refine OGo.st (fun _ kz => XS.iadd X60.here hx rfl (hb hby at_115) rfl kz) ?_
    show OG p e below Φ T60 m 116 #[iv xn, iv xa, iv xb, iv xc, iv 3, iv (xa.toInt8.toInt32), iv (xb.toInt8.toInt32), iv (xc.toInt8.toInt32), rv b44, rv sx56, .unset] [(.int 8), (.int 8)]
    refine OGo.st (fun _ kz => XS.icmpYes X60.here hx rfl (pc0 := 116) (pc' := 121) rfl (hb hby at_116) rfl (XT.ii_eq_t (by decide)) (by decide) (by decide) kz) ?_
    show OG p e below Φ T60 m 121 #[iv xn, iv xa, iv xb, iv xc, iv 3, iv (xa.toInt8.toInt32), iv (xb.toInt8.toInt32), iv (xc.toInt8.toInt32), rv b44, rv sx56, .unset] []
    refine OGo.st (fun _ kz => XS.aload X60.here hx rfl (hb hby at_121) rfl rfl kz) ?_
    show OG p e below Φ T60 m 123 #[iv xn, iv xa, iv xb, iv xc, iv 3, iv (xa.toInt8.toInt32), iv (xb.toInt8.toInt32), iv (xc.toInt8.toInt32), rv b44, rv sx56, .unset] [(.ref sx56)]
    refine OGo.st (fun _ kz => XS.iconst X60.here hx rfl (hb hby at_123) kz) ?_
    show OG p e below Φ T60 m 124 #[iv xn, iv xa, iv xb, iv xc, iv 3, iv (xa.toInt8.toInt32), iv (xb.toInt8.toInt32), iv (xc.toInt8.toInt32), rv b44, rv sx56, .unset] [(.int 0), (.ref sx56)]
    obtain ⟨_, T61, L61, X61, hQ61, st61⟩ := own_callVi X60 hx hZ hown (ow44 hw) (ow45 hw) (notFace_of_selects (args := #[]) (mvT hZ (ow47 hw))) (ow47 hw) (ow46 hw) (ow8 hw) (ow48 hw) (by decide) (rgh8_0 l Z a0 hw [] sx56 bx56 cx56 qc vf (92 : Int32) (120 : Int32) (own_hi (nar .byte (xa.toInt8.toInt32))) (own_lo (nar .byte (xa.toInt8.toInt32))) (own_hi (nar .byte (xb.toInt8.toInt32))) (own_lo (nar .byte (xb.toInt8.toInt32))) (own_hi (nar .byte (xc.toInt8.toInt32))) (own_lo (nar .byte (xc.toInt8.toInt32))) T56.heap n0 Zs56 Eq56 Fv56 Fc56 Vq56 (S_cs.ext F57.2) hq (S_si.ext F57.2) rvf) e60 (W := 0) (by decide) (by decide) (by decide) (by decide) Eq56 (pc := 124) (ls := #[iv xn, iv xa, iv xb, iv xc, iv 3, iv (xa.toInt8.toInt32), iv (xb.toInt8.toInt32), iv (xc.toInt8.toInt32), rv b44, rv sx56, .unset]) (stk := [(.int 0), (.ref sx56)]) (by rw [hml]; rfl) (argsL := [(.int 0)]) (rest := []) (lenOf pd10 rfl) rfl rfl (Nat.le_of_eq rfl) (hb hby at_124)
    obtain ⟨rfl, Nq61, e61⟩ := hQ61
    have N61 := Fr.app N60 Nq61
    refine OGo.st st61 ?_
    show OG p e below Φ T61 m 127 #[iv xn, iv xa, iv xb, iv xc, iv 3, iv (xa.toInt8.toInt32), iv (xb.toInt8.toInt32), iv (xc.toInt8.toInt32), rv b44, rv sx56, .unset] [(.int 92)]
    refine OGo.st (fun _ kz => XS.bipush X61.here hx rfl (hb hby at_127) kz) ?_
    show OG p e below Φ T61 m 129 #[iv xn, iv xa, iv xb, iv xc, iv 3, iv (xa.toInt8.toInt32), iv (xb.toInt8.toInt32), iv (xc.toInt8.toInt32), rv b44, rv sx56, .unset] [(.int 92), (.int 92)]
    refine OGo.st (fun _ kz => XS.icmpNo X61.here hx rfl (hb hby at_129) rfl (XT.ii_ne_f (by decide)) kz) ?_
    show OG p e below Φ T61 m 132 #[iv xn, iv xa, iv xb, iv xc, iv 3, iv (xa.toInt8.toInt32), iv (xb.toInt8.toInt32), iv (xc.toInt8.toInt32), rv b44, rv sx56, .unset] []
    refine OGo.st (fun _ kz => XS.aload X61.here hx rfl (hb hby at_132) rfl rfl kz) ?_
    show OG p e below Φ T61 m 134 #[iv xn, iv xa, iv xb, iv xc, iv 3, iv (xa.toInt8.toInt32), iv (xb.toInt8.toInt32), iv (xc.toInt8.toInt32), rv b44, rv sx56, .unset] [(.ref sx56)]
    refine OGo.st (fun _ kz => XS.iconst X61.here hx rfl (hb hby at_134) kz) ?_
    show OG p e below Φ T61 m 135 #[iv xn, iv xa, iv xb, iv xc, iv 3, iv (xa.toInt8.toInt32), iv (xb.toInt8.toInt32), iv (xc.toInt8.toInt32), rv b44, rv sx56, .unset] [(.int 1), (.ref sx56)]
    obtain ⟨_, T62, L62, X62, hQ62, st62⟩ := own_callVi X61 hx hZ hown (ow44 hw) (ow45 hw) (notFace_of_selects (args := #[]) (mvT hZ (ow47 hw))) (ow47 hw) (ow46 hw) (ow8 hw) (ow48 hw) (by decide) (rgh8_1 l Z a0 hw [] sx56 bx56 cx56 qc vf (92 : Int32) (120 : Int32) (own_hi (nar .byte (xa.toInt8.toInt32))) (own_lo (nar .byte (xa.toInt8.toInt32))) (own_hi (nar .byte (xb.toInt8.toInt32))) (own_lo (nar .byte (xb.toInt8.toInt32))) (own_hi (nar .byte (xc.toInt8.toInt32))) (own_lo (nar .byte (xc.toInt8.toInt32))) T56.heap n0 Zs56 Eq56 Fv56 Fc56 Vq56 (S_cs.ext F57.2) hq (S_si.ext F57.2) rvf) e61 (W := 0) (by decide) (by decide) (by decide) (by decide) Eq56 (pc := 135) (ls := #[iv xn, iv xa, iv xb, iv xc, iv 3, iv (xa.toInt8.toInt32), iv (xb.toInt8.toInt32), iv (xc.toInt8.toInt32), rv b44, rv sx56, .unset]) (stk := [(.int 1), (.ref sx56)]) (by rw [hml]; rfl) (argsL := [(.int 1)]) (rest := []) (lenOf pd10 rfl) rfl rfl (Nat.le_of_eq rfl) (hb hby at_135)
    obtain ⟨rfl, Nq62, e62⟩ := hQ62
    have N62 := Fr.app N61 Nq62
    refine OGo.st st62 ?_
    show OG p e below Φ T62 m 138 #[iv xn, iv xa, iv xb, iv xc, iv 3, iv (xa.toInt8.toInt32), iv (xb.toInt8.toInt32), iv (xc.toInt8.toInt32), rv b44, rv sx56, .unset] [(.int 120)]
    refine OGo.st (fun _ kz => XS.bipush X62.here hx rfl (hb hby at_138) kz) ?_
    show OG p e below Φ T62 m 140 #[iv xn, iv xa, iv xb, iv xc, iv 3, iv (xa.toInt8.toInt32), iv (xb.toInt8.toInt32), iv (xc.toInt8.toInt32), rv b44, rv sx56, .unset] [(.int 120), (.int 120)]
    refine OGo.st (fun _ kz => XS.icmpYes X62.here hx rfl (pc0 := 140) (pc' := 145) rfl (hb hby at_140) rfl (XT.ii_eq_t (by decide)) (by decide) (by decide) kz) ?_
    show OG p e below Φ T62 m 145 #[iv xn, iv xa, iv xb, iv xc, iv 3, iv (xa.toInt8.toInt32), iv (xb.toInt8.toInt32), iv (xc.toInt8.toInt32), rv b44, rv sx56, .unset] []
    refine OGo.st (fun _ kz => XS.iconst X62.here hx rfl (hb hby at_145) kz) ?_
    show OG p e below Φ T62 m 146 #[iv xn, iv xa, iv xb, iv xc, iv 3, iv (xa.toInt8.toInt32), iv (xb.toInt8.toInt32), iv (xc.toInt8.toInt32), rv b44, rv sx56, .unset] [(.int 1)]
    refine OGo.st (fun _ kz => XS.istore X62.here hx rfl (hb hby at_146) rfl (l' := #[iv xn, iv xa, iv xb, iv xc, iv 3, iv (xa.toInt8.toInt32), iv (xb.toInt8.toInt32), iv (xc.toInt8.toInt32), rv b44, rv sx56, iv 1]) rfl kz) ?_
    show OG p e below Φ T62 m 148 #[iv xn, iv xa, iv xb, iv xc, iv 3, iv (xa.toInt8.toInt32), iv (xb.toInt8.toInt32), iv (xc.toInt8.toInt32), rv b44, rv sx56, iv 1] []
    refine OGo.st (fun _ kz => XS.iload X62.here hx rfl (hb hby at_148) rfl kz) ?_
    show OG p e below Φ T62 m 150 #[iv xn, iv xa, iv xb, iv xc, iv 3, iv (xa.toInt8.toInt32), iv (xb.toInt8.toInt32), iv (xc.toInt8.toInt32), rv b44, rv sx56, iv 1] [(.int 3)]
    refine OGo.st (fun _ kz => XS.iconst X62.here hx rfl (hb hby at_150) kz) ?_
    show OG p e below Φ T62 m 151 #[iv xn, iv xa, iv xb, iv xc, iv 3, iv (xa.toInt8.toInt32), iv (xb.toInt8.toInt32), iv (xc.toInt8.toInt32), rv b44, rv sx56, iv 1] [(.int 1), (.int 3)]
    refine OGo.st (fun _ kz => XS.icmpNo X62.here hx rfl (hb hby at_151) rfl (XT.ii_lt_f (by decide)) kz) ?_
    show OG p e below Φ T62 m 154 #[iv xn, iv xa, iv xb, iv xc, iv 3, iv (xa.toInt8.toInt32), iv (xb.toInt8.toInt32), iv (xc.toInt8.toInt32), rv b44, rv sx56, iv 1] []
    refine OGo.st (fun _ kz => XS.iload X62.here hx rfl (hb hby at_154) rfl kz) ?_
    show OG p e below Φ T62 m 156 #[iv xn, iv xa, iv xb, iv xc, iv 3, iv (xa.toInt8.toInt32), iv (xb.toInt8.toInt32), iv (xc.toInt8.toInt32), rv b44, rv sx56, iv 1] [(.int 1)]
    refine OGo.st (fun _ kz => XS.ifNo X62.here hx rfl (hb hby at_156) rfl (XT.i0_eq_f (by decide)) kz) ?_
    show OG p e below Φ T62 m 159 #[iv xn, iv xa, iv xb, iv xc, iv 3, iv (xa.toInt8.toInt32), iv (xb.toInt8.toInt32), iv (xc.toInt8.toInt32), rv b44, rv sx56, iv 1] []
    refine OGo.st (fun _ kz => XS.aload X62.here hx rfl (hb hby at_159) rfl rfl kz) ?_
    show OG p e below Φ T62 m 161 #[iv xn, iv xa, iv xb, iv xc, iv 3, iv (xa.toInt8.toInt32), iv (xb.toInt8.toInt32), iv (xc.toInt8.toInt32), rv b44, rv sx56, iv 1] [(.ref sx56)]
    refine OGo.st (fun _ kz => XS.iconst X62.here hx rfl (hb hby at_161) kz) ?_
    show OG p e below Φ T62 m 162 #[iv xn, iv xa, iv xb, iv xc, iv 3, iv (xa.toInt8.toInt32), iv (xb.toInt8.toInt32), iv (xc.toInt8.toInt32), rv b44, rv sx56, iv 1] [(.int 0), (.ref sx56)]
    refine OGo.st (fun _ kz => XS.iload X62.here hx rfl (hb hby at_162) rfl kz) ?_
    show OG p e below Φ T62 m 164 #[iv xn, iv xa, iv xb, iv xc, iv 3, iv (xa.toInt8.toInt32), iv (xb.toInt8.toInt32), iv (xc.toInt8.toInt32), rv b44, rv sx56, iv 1] [(.int (xa.toInt8.toInt32)), (.int 0), (.ref sx56)]
    obtain ⟨_, T63, L63, X63, hQ63, st63⟩ := own_callSt X62 hx hZ hown (ow68 hw) (ow69 hw) (ow70 hw) (ow71 hw) (by decide) (rpo8_0 l Z a0 hw [] (xa.toInt8) sx56 bx56 cx56 qc vf (92 : Int32) (120 : Int32) (own_hi (nar .byte (xb.toInt8.toInt32))) (own_lo (nar .byte (xb.toInt8.toInt32))) (own_hi (nar .byte (xc.toInt8.toInt32))) (own_lo (nar .byte (xc.toInt8.toInt32))) T56.heap n0 Zs56 Eq56 Fv56 Fc56 Vq56 (S_cs.ext F57.2) hq (S_si.ext F57.2) rvf) e62 (W := 0) (by decide) (by decide) (by decide) (by decide) (pc := 164) (ls := #[iv xn, iv xa, iv xb, iv xc, iv 3, iv (xa.toInt8.toInt32), iv (xb.toInt8.toInt32), iv (xc.toInt8.toInt32), rv b44, rv sx56, iv 1]) (stk := [(.int (xa.toInt8.toInt32)), (.int 0), (.ref sx56)]) (by rw [hml]; rfl) (argsL := [(.ref sx56), (.int 0), (.int (xa.toInt8.toInt32))]) (rest := []) (lenOf pd13 rfl) rfl rfl (Nat.le_of_eq rfl) (hb hby at_164)
    obtain ⟨rfl, Nq63, e63⟩ := hQ63
    have N63 := Fr.app N62 Nq63
    refine OGo.st st63 ?_
    show OG p e below Φ T63 m 167 #[iv xn, iv xa, iv xb, iv xc, iv 3, iv (xa.toInt8.toInt32), iv (xb.toInt8.toInt32), iv (xc.toInt8.toInt32), rv b44, rv sx56, iv 1] [(.int 1)]
    refine OGo.st (fun _ kz => XS.ifNo X63.here hx rfl (hb hby at_167) rfl (XT.i0_eq_f (by decide)) kz) ?_
    show OG p e below Φ T63 m 170 #[iv xn, iv xa, iv xb, iv xc, iv 3, iv (xa.toInt8.toInt32), iv (xb.toInt8.toInt32), iv (xc.toInt8.toInt32), rv b44, rv sx56, iv 1] []
    refine OGo.st (fun _ kz => XS.iconst X63.here hx rfl (hb hby at_170) kz) ?_
    show OG p e below Φ T63 m 171 #[iv xn, iv xa, iv xb, iv xc, iv 3, iv (xa.toInt8.toInt32), iv (xb.toInt8.toInt32), iv (xc.toInt8.toInt32), rv b44, rv sx56, iv 1] [(.int 1)]
    refine OGo.st (fun _ kz => XS.goto X63.here hx rfl (pc0 := 171) (pc' := 175) rfl (hb hby at_171) (by decide) (by decide) kz) ?_
    show OG p e below Φ T63 m 175 #[iv xn, iv xa, iv xb, iv xc, iv 3, iv (xa.toInt8.toInt32), iv (xb.toInt8.toInt32), iv (xc.toInt8.toInt32), rv b44, rv sx56, iv 1] [(.int 1)]
    refine OGo.st (fun _ kz => XS.istore X63.here hx rfl (hb hby at_175) rfl (l' := #[iv xn, iv xa, iv xb, iv xc, iv 3, iv (xa.toInt8.toInt32), iv (xb.toInt8.toInt32), iv (xc.toInt8.toInt32), rv b44, rv sx56, iv 1]) rfl kz) ?_
    show OG p e below Φ T63 m 177 #[iv xn, iv xa, iv xb, iv xc, iv 3, iv (xa.toInt8.toInt32), iv (xb.toInt8.toInt32), iv (xc.toInt8.toInt32), rv b44, rv sx56, iv 1] []
    refine OGo.st (fun _ kz => XS.iload X63.here hx rfl (hb hby at_177) rfl kz) ?_
    show OG p e below Φ T63 m 179 #[iv xn, iv xa, iv xb, iv xc, iv 3, iv (xa.toInt8.toInt32), iv (xb.toInt8.toInt32), iv (xc.toInt8.toInt32), rv b44, rv sx56, iv 1] [(.int 3)]
    refine OGo.st (fun _ kz => XS.iconst X63.here hx rfl (hb hby at_179) kz) ?_
    show OG p e below Φ T63 m 180 #[iv xn, iv xa, iv xb, iv xc, iv 3, iv (xa.toInt8.toInt32), iv (xb.toInt8.toInt32), iv (xc.toInt8.toInt32), rv b44, rv sx56, iv 1] [(.int 2), (.int 3)]
    refine OGo.st (fun _ kz => XS.icmpNo X63.here hx rfl (hb hby at_180) rfl (XT.ii_lt_f (by decide)) kz) ?_
    show OG p e below Φ T63 m 183 #[iv xn, iv xa, iv xb, iv xc, iv 3, iv (xa.toInt8.toInt32), iv (xb.toInt8.toInt32), iv (xc.toInt8.toInt32), rv b44, rv sx56, iv 1] []
    refine OGo.st (fun _ kz => XS.iload X63.here hx rfl (hb hby at_183) rfl kz) ?_
    show OG p e below Φ T63 m 185 #[iv xn, iv xa, iv xb, iv xc, iv 3, iv (xa.toInt8.toInt32), iv (xb.toInt8.toInt32), iv (xc.toInt8.toInt32), rv b44, rv sx56, iv 1] [(.int 1)]
    refine OGo.st (fun _ kz => XS.ifNo X63.here hx rfl (hb hby at_185) rfl (XT.i0_eq_f (by decide)) kz) ?_
    show OG p e below Φ T63 m 188 #[iv xn, iv xa, iv xb, iv xc, iv 3, iv (xa.toInt8.toInt32), iv (xb.toInt8.toInt32), iv (xc.toInt8.toInt32), rv b44, rv sx56, iv 1] []
    refine OGo.st (fun _ kz => XS.aload X63.here hx rfl (hb hby at_188) rfl rfl kz) ?_
    show OG p e below Φ T63 m 190 #[iv xn, iv xa, iv xb, iv xc, iv 3, iv (xa.toInt8.toInt32), iv (xb.toInt8.toInt32), iv (xc.toInt8.toInt32), rv b44, rv sx56, iv 1] [(.ref sx56)]
    refine OGo.st (fun _ kz => XS.iconst X63.here hx rfl (hb hby at_190) kz) ?_
    show OG p e below Φ T63 m 191 #[iv xn, iv xa, iv xb, iv xc, iv 3, iv (xa.toInt8.toInt32), iv (xb.toInt8.toInt32), iv (xc.toInt8.toInt32), rv b44, rv sx56, iv 1] [(.int 1), (.ref sx56)]
    refine OGo.st (fun _ kz => XS.iload X63.here hx rfl (hb hby at_191) rfl kz) ?_
    show OG p e below Φ T63 m 193 #[iv xn, iv xa, iv xb, iv xc, iv 3, iv (xa.toInt8.toInt32), iv (xb.toInt8.toInt32), iv (xc.toInt8.toInt32), rv b44, rv sx56, iv 1] [(.int (xb.toInt8.toInt32)), (.int 1), (.ref sx56)]
    obtain ⟨_, T64, L64, X64, hQ64, st64⟩ := own_callSt X63 hx hZ hown (ow68 hw) (ow69 hw) (ow70 hw) (ow71 hw) (by decide) (rpo8_1 l Z a0 hw [] (xb.toInt8) sx56 bx56 cx56 qc vf (92 : Int32) (120 : Int32) (own_hi (nar .byte (xa.toInt8.toInt32))) (own_lo (nar .byte (xa.toInt8.toInt32))) (own_hi (nar .byte (xc.toInt8.toInt32))) (own_lo (nar .byte (xc.toInt8.toInt32))) T56.heap n0 Zs56 Eq56 Fv56 Fc56 Vq56 (S_cs.ext F57.2) hq (S_si.ext F57.2) rvf) e63 (W := 0) (by decide) (by decide) (by decide) (by decide) (pc := 193) (ls := #[iv xn, iv xa, iv xb, iv xc, iv 3, iv (xa.toInt8.toInt32), iv (xb.toInt8.toInt32), iv (xc.toInt8.toInt32), rv b44, rv sx56, iv 1]) (stk := [(.int (xb.toInt8.toInt32)), (.int 1), (.ref sx56)]) (by rw [hml]; rfl) (argsL := [(.ref sx56), (.int 1), (.int (xb.toInt8.toInt32))]) (rest := []) (lenOf pd13 rfl) rfl rfl (Nat.le_of_eq rfl) (hb hby at_193)
    obtain ⟨rfl, Nq64, e64⟩ := hQ64
    have N64 := Fr.app N63 Nq64
    refine OGo.st st64 ?_
    show OG p e below Φ T64 m 196 #[iv xn, iv xa, iv xb, iv xc, iv 3, iv (xa.toInt8.toInt32), iv (xb.toInt8.toInt32), iv (xc.toInt8.toInt32), rv b44, rv sx56, iv 1] [(.int 1)]
    refine OGo.st (fun _ kz => XS.ifNo X64.here hx rfl (hb hby at_196) rfl (XT.i0_eq_f (by decide)) kz) ?_
    show OG p e below Φ T64 m 199 #[iv xn, iv xa, iv xb, iv xc, iv 3, iv (xa.toInt8.toInt32), iv (xb.toInt8.toInt32), iv (xc.toInt8.toInt32), rv b44, rv sx56, iv 1] []
    refine OGo.st (fun _ kz => XS.iconst X64.here hx rfl (hb hby at_199) kz) ?_
    show OG p e below Φ T64 m 200 #[iv xn, iv xa, iv xb, iv xc, iv 3, iv (xa.toInt8.toInt32), iv (xb.toInt8.toInt32), iv (xc.toInt8.toInt32), rv b44, rv sx56, iv 1] [(.int 1)]
    refine OGo.st (fun _ kz => XS.goto X64.here hx rfl (pc0 := 200) (pc' := 204) rfl (hb hby at_200) (by decide) (by decide) kz) ?_
    show OG p e below Φ T64 m 204 #[iv xn, iv xa, iv xb, iv xc, iv 3, iv (xa.toInt8.toInt32), iv (xb.toInt8.toInt32), iv (xc.toInt8.toInt32), rv b44, rv sx56, iv 1] [(.int 1)]
    refine OGo.st (fun _ kz => XS.istore X64.here hx rfl (hb hby at_204) rfl (l' := #[iv xn, iv xa, iv xb, iv xc, iv 3, iv (xa.toInt8.toInt32), iv (xb.toInt8.toInt32), iv (xc.toInt8.toInt32), rv b44, rv sx56, iv 1]) rfl kz) ?_
    show OG p e below Φ T64 m 206 #[iv xn, iv xa, iv xb, iv xc, iv 3, iv (xa.toInt8.toInt32), iv (xb.toInt8.toInt32), iv (xc.toInt8.toInt32), rv b44, rv sx56, iv 1] []
    refine OGo.st (fun _ kz => XS.iload X64.here hx rfl (hb hby at_206) rfl kz) ?_
    show OG p e below Φ T64 m 208 #[iv xn, iv xa, iv xb, iv xc, iv 3, iv (xa.toInt8.toInt32), iv (xb.toInt8.toInt32), iv (xc.toInt8.toInt32), rv b44, rv sx56, iv 1] [(.int 3)]
    refine OGo.st (fun _ kz => XS.iconst X64.here hx rfl (hb hby at_208) kz) ?_
    show OG p e below Φ T64 m 209 #[iv xn, iv xa, iv xb, iv xc, iv 3, iv (xa.toInt8.toInt32), iv (xb.toInt8.toInt32), iv (xc.toInt8.toInt32), rv b44, rv sx56, iv 1] [(.int 3), (.int 3)]
    refine OGo.st (fun _ kz => XS.icmpNo X64.here hx rfl (hb hby at_209) rfl (XT.ii_lt_f (by decide)) kz) ?_
    show OG p e below Φ T64 m 212 #[iv xn, iv xa, iv xb, iv xc, iv 3, iv (xa.toInt8.toInt32), iv (xb.toInt8.toInt32), iv (xc.toInt8.toInt32), rv b44, rv sx56, iv 1] []
    refine OGo.st (fun _ kz => XS.iload X64.here hx rfl (hb hby at_212) rfl kz) ?_
    show OG p e below Φ T64 m 214 #[iv xn, iv xa, iv xb, iv xc, iv 3, iv (xa.toInt8.toInt32), iv (xb.toInt8.toInt32), iv (xc.toInt8.toInt32), rv b44, rv sx56, iv 1] [(.int 1)]
    refine OGo.st (fun _ kz => XS.ifNo X64.here hx rfl (hb hby at_214) rfl (XT.i0_eq_f (by decide)) kz) ?_
    show OG p e below Φ T64 m 217 #[iv xn, iv xa, iv xb, iv xc, iv 3, iv (xa.toInt8.toInt32), iv (xb.toInt8.toInt32), iv (xc.toInt8.toInt32), rv b44, rv sx56, iv 1] []
    refine OGo.st (fun _ kz => XS.aload X64.here hx rfl (hb hby at_217) rfl rfl kz) ?_
    show OG p e below Φ T64 m 219 #[iv xn, iv xa, iv xb, iv xc, iv 3, iv (xa.toInt8.toInt32), iv (xb.toInt8.toInt32), iv (xc.toInt8.toInt32), rv b44, rv sx56, iv 1] [(.ref sx56)]
    refine OGo.st (fun _ kz => XS.iconst X64.here hx rfl (hb hby at_219) kz) ?_
    show OG p e below Φ T64 m 220 #[iv xn, iv xa, iv xb, iv xc, iv 3, iv (xa.toInt8.toInt32), iv (xb.toInt8.toInt32), iv (xc.toInt8.toInt32), rv b44, rv sx56, iv 1] [(.int 2), (.ref sx56)]
    refine OGo.st (fun _ kz => XS.iload X64.here hx rfl (hb hby at_220) rfl kz) ?_
    show OG p e below Φ T64 m 222 #[iv xn, iv xa, iv xb, iv xc, iv 3, iv (xa.toInt8.toInt32), iv (xb.toInt8.toInt32), iv (xc.toInt8.toInt32), rv b44, rv sx56, iv 1] [(.int (xc.toInt8.toInt32)), (.int 2), (.ref sx56)]
    obtain ⟨_, T65, L65, X65, hQ65, st65⟩ := own_callSt X64 hx hZ hown (ow68 hw) (ow69 hw) (ow70 hw) (ow71 hw) (by decide) (rpo8_2 l Z a0 hw [] (xc.toInt8) sx56 bx56 cx56 qc vf (92 : Int32) (120 : Int32) (own_hi (nar .byte (xa.toInt8.toInt32))) (own_lo (nar .byte (xa.toInt8.toInt32))) (own_hi (nar .byte (xb.toInt8.toInt32))) (own_lo (nar .byte (xb.toInt8.toInt32))) T56.heap n0 Zs56 Eq56 Fv56 Fc56 Vq56 (S_cs.ext F57.2) hq (S_si.ext F57.2) rvf) e64 (W := 0) (by decide) (by decide) (by decide) (by decide) (pc := 222) (ls := #[iv xn, iv xa, iv xb, iv xc, iv 3, iv (xa.toInt8.toInt32), iv (xb.toInt8.toInt32), iv (xc.toInt8.toInt32), rv b44, rv sx56, iv 1]) (stk := [(.int (xc.toInt8.toInt32)), (.int 2), (.ref sx56)]) (by rw [hml]; rfl) (argsL := [(.ref sx56), (.int 2), (.int (xc.toInt8.toInt32))]) (rest := []) (lenOf pd13 rfl) rfl rfl (Nat.le_of_eq rfl) (hb hby at_222)
    obtain ⟨rfl, Nq65, e65⟩ := hQ65
    have N65 := Fr.app N64 Nq65
    refine OGo.st st65 ?_
    show OG p e below Φ T65 m 225 #[iv xn, iv xa, iv xb, iv xc, iv 3, iv (xa.toInt8.toInt32), iv (xb.toInt8.toInt32), iv (xc.toInt8.toInt32), rv b44, rv sx56, iv 1] [(.int 1)]
    refine OGo.st (fun _ kz => XS.ifNo X65.here hx rfl (hb hby at_225) rfl (XT.i0_eq_f (by decide)) kz) ?_
    show OG p e below Φ T65 m 228 #[iv xn, iv xa, iv xb, iv xc, iv 3, iv (xa.toInt8.toInt32), iv (xb.toInt8.toInt32), iv (xc.toInt8.toInt32), rv b44, rv sx56, iv 1] []
    refine OGo.st (fun _ kz => XS.iconst X65.here hx rfl (hb hby at_228) kz) ?_
    show OG p e below Φ T65 m 229 #[iv xn, iv xa, iv xb, iv xc, iv 3, iv (xa.toInt8.toInt32), iv (xb.toInt8.toInt32), iv (xc.toInt8.toInt32), rv b44, rv sx56, iv 1] [(.int 1)]
    refine OGo.st (fun _ kz => XS.goto X65.here hx rfl (pc0 := 229) (pc' := 233) rfl (hb hby at_229) (by decide) (by decide) kz) ?_
    show OG p e below Φ T65 m 233 #[iv xn, iv xa, iv xb, iv xc, iv 3, iv (xa.toInt8.toInt32), iv (xb.toInt8.toInt32), iv (xc.toInt8.toInt32), rv b44, rv sx56, iv 1] [(.int 1)]
    refine OGo.st (fun _ kz => XS.istore X65.here hx rfl (hb hby at_233) rfl (l' := #[iv xn, iv xa, iv xb, iv xc, iv 3, iv (xa.toInt8.toInt32), iv (xb.toInt8.toInt32), iv (xc.toInt8.toInt32), rv b44, rv sx56, iv 1]) rfl kz) ?_
    show OG p e below Φ T65 m 235 #[iv xn, iv xa, iv xb, iv xc, iv 3, iv (xa.toInt8.toInt32), iv (xb.toInt8.toInt32), iv (xc.toInt8.toInt32), rv b44, rv sx56, iv 1] []
    refine OGo.st (fun _ kz => XS.iload X65.here hx rfl (hb hby at_235) rfl kz) ?_
    show OG p e below Φ T65 m 237 #[iv xn, iv xa, iv xb, iv xc, iv 3, iv (xa.toInt8.toInt32), iv (xb.toInt8.toInt32), iv (xc.toInt8.toInt32), rv b44, rv sx56, iv 1] [(.int 1)]
    refine OGo.fin X65 hlk (v := (some (.int 1))) (fun h => by rw [hret] at h; cases h) (by decide) (by decide) (fun fs hr => X65.ireturnOut hx hret rfl (by simp) (hb hby at_237) hr) fun U eU hF => hΦ _ _ _ ?_ hF
    rw [eU, e65]
    show Q_rm0 Z xn xa xb xc ah ch qc vf h0 n0 _ _ _
    exact ⟨rfl, N65⟩

set_option maxRecDepth 65536 in
set_option maxHeartbeats 40000000 in
theorem comes_1 {Post : Tables → Env → Array Value → State → Outcome → State → Prop} (hpost : ∀ tb e args s v u, (limb_1_1.after args s (.returned v) u = true ∧ limb_1_2.after args s (.returned v) u = true ∧ True) → FrameEnd s (.returned v) u (Jvm.fieldLocs frame_1_writes args s ++ Jvm.arrayLocs frame_1_arrays args s ++ Jvm.staticLocs frame_1_statics s) 16 128 → Post tb e args s (.returned v) u) :
    ArmFor flags0 classFile x code maxLocals ret World_1 tables_1 room_1 Calls_1 rest_1 Pre_1 Post := by
  intro l hfl _ _ p e ha hc hk s m args below hf hA hF happ hP
  obtain ⟨hcalls, hrest, hpre⟩ := hP
  obtain ⟨-, -, -, hnamed, -, -, -, hat⟩ := (Spec.applies_iff hf).mp happ
  obtain ⟨hg, hn⟩ := and_e (Cond.before_iff.mp (show (Jvm.Cond.and given_1 narrow_1).before args s = true from hpre))
  obtain ⟨g0, r0⟩ := and_e hg
  obtain ⟨k0, r1⟩ := and_e r0
  obtain ⟨k1, r2⟩ := and_e r1
  obtain ⟨k2, r3⟩ := and_e r2
  have k3 := r3
  obtain ⟨w0, w1, w2, w3, rfl⟩ : ∃ w0 w1 w2 w3 : Value, args = #[w0, w1, w2, w3] := by
    have hs : args.size = 4 := by simpa [Cond.value, given_1] using g0
    obtain ⟨L⟩ := args
    match L, hs with
    | [w0, w1, w2, w3], _ => exact ⟨w0, w1, w2, w3, rfl⟩
  have hw := fun d (hd : d ∈ tables_1) => atoms_spec (ws := Jvm.Cond.code x code maxLocals ret :: tables_1) hat d (List.mem_cons_of_mem _ hd)
  have hfit : Fit s := fun {y c} hc i hi => by
    obtain ⟨ha, rfl⟩ := Array.getElem?_eq_some_iff.mp hc
    have q := List.all_eq_true.mp ((Array.all_eq_true_iff_forall_mem.mp hF) _ (Array.getElem_mem ha)) i (List.mem_range.mpr hi)
    simpa [Array.getElem?_eq_getElem hi] using q
  obtain ⟨i0, ei0⟩ := is_v k0
  obtain rfl : w0 = (.int i0) := Option.some.inj ei0
  obtain ⟨i1, ei1⟩ := is_v k1
  obtain rfl : w1 = (.int i1) := Option.some.inj ei1
  obtain ⟨i2, ei2⟩ := is_v k2
  obtain rfl : w2 = (.int i2) := Option.some.inj ei2
  obtain ⟨i3, ei3⟩ := is_v k3
  obtain rfl : w3 = (.int i3) := Option.some.inj ei3
  obtain ⟨m0, hn0⟩ := and_e hn
  obtain ⟨m1, hn1⟩ := and_e hn0
  obtain ⟨m2, hn2⟩ := and_e hn1
  have m3 := hn2
  obtain ⟨s_H, v_H⟩ := arr_v m0
  obtain ⟨cl, A_H⟩ := Arr.start v_H m0
  have S_h := Sta.start v_H (Or.inr ⟨(ow3 hw), (ow67 hw)⟩)
  obtain ⟨l1, l2⟩ := own_lenI v_H A_H m1
  have l3 : cl.slots.size = 16 := own_size16 l1 l2
  have V_h : Arv s s.heap s_H cl.cls .char (16 : Int32) own_hxl (.int (0 : Int32)) := Arv.start hfit A_H l1 l2 (by decide) (by decide) ⟨own_hexel 0 48 0 (fun _ => v_H) A_H (by decide) (by decide) (by rw [l3]; decide) m2 rfl (by decide), own_hexel 1 49 1 (fun _ => v_H) A_H (by decide) (by decide) (by rw [l3]; decide) m2 rfl (by decide), own_hexel 2 50 2 (fun _ => v_H) A_H (by decide) (by decide) (by rw [l3]; decide) m2 rfl (by decide), own_hexel 3 51 3 (fun _ => v_H) A_H (by decide) (by decide) (by rw [l3]; decide) m2 rfl (by decide), own_hexel 4 52 4 (fun _ => v_H) A_H (by decide) (by decide) (by rw [l3]; decide) m2 rfl (by decide), own_hexel 5 53 5 (fun _ => v_H) A_H (by decide) (by decide) (by rw [l3]; decide) m2 rfl (by decide), own_hexel 6 54 6 (fun _ => v_H) A_H (by decide) (by decide) (by rw [l3]; decide) m2 rfl (by decide), own_hexel 7 55 7 (fun _ => v_H) A_H (by decide) (by decide) (by rw [l3]; decide) m2 rfl (by decide), own_hexel 8 56 8 (fun _ => v_H) A_H (by decide) (by decide) (by rw [l3]; decide) m2 rfl (by decide), own_hexel 9 57 9 (fun _ => v_H) A_H (by decide) (by decide) (by rw [l3]; decide) m2 rfl (by decide), own_hexel 10 97 10 (fun _ => v_H) A_H (by decide) (by decide) (by rw [l3]; decide) m3 rfl (by decide), own_hexel 11 98 11 (fun _ => v_H) A_H (by decide) (by decide) (by rw [l3]; decide) m3 rfl (by decide), own_hexel 12 99 12 (fun _ => v_H) A_H (by decide) (by decide) (by rw [l3]; decide) m3 rfl (by decide), own_hexel 13 100 13 (fun _ => v_H) A_H (by decide) (by decide) (by rw [l3]; decide) m3 rfl (by decide), own_hexel 14 101 14 (fun _ => v_H) A_H (by decide) (by decide) (by rw [l3]; decide) m3 rfl (by decide), own_hexel 15 102 15 (fun _ => v_H) A_H (by decide) (by decide) (by rw [l3]; decide) m3 rfl (by decide), trivial⟩
  have hrc : rest_1_c.before _ s = true := hrest
  rw [rest_1_c_eq] at hrc
  have hsets := (atoms_of jdkStatics_1 hrc).1
  obtain ⟨qc, v_q⟩ := is_v (Cond.before_iff.mp (hsets _ (List.mem_of_getElem? (i := 1) rfl)))
  have S_cs := Sta.start v_q (Or.inl (hsets _ (List.mem_of_getElem? (i := 0) rfl)))
  have hq : ¬ qc = 0 := fun z => by have u := not_v (Cond.before_iff.mp (hsets _ (List.mem_of_getElem? (i := 2) rfl))); rw [eq_i v_q (Term.int_eval 0) (by rw [z])] at u; cases u
  obtain ⟨vf, v_f, rvf⟩ := isR_v (Cond.before_iff.mp (hsets _ (List.mem_of_getElem? (i := 8) rfl)))
  have S_si := Sta.start v_f (Or.inl (hsets _ (List.mem_of_getElem? (i := 7) rfl)))
  obtain ⟨n, o, h1, h2, h3, _, L, rfl, ⟨rfl, N⟩, hq⟩ := rm0 l s _ hw tables_1 i0 i1 i2 i3 s_H cl.cls qc vf s.heap s.heap.size (Nat.le_refl _) (Old.start s) V_h S_h S_cs hq S_si rvf p e ha hc hk s m _ below hf ((Spec.applies_iff_loose hf).mp happ).1 ⟨rfl, State.Warmed39.refl s, rfl⟩ trivial
  refine ⟨n, _, h1, h2, h3, hpost _ _ _ _ _ _ ⟨Cond.after_iff.mpr rfl, Cond.after_iff.mpr (eq_i res_at (Term.int_eval (1)) rfl), trivial⟩ ⟨hq.1, hq.2.1, (hq.2.2.sift fun y hy => Or.inr (N y hy)).mono (by decide) (by decide)⟩⟩
theorem main_1_1 : Claimed_1_1 := comes_1 fun _ _ _ _ _ _ h hF => ⟨h.1, hF⟩
theorem main_1_2 : Claimed_1_2 := comes_1 fun _ _ _ _ _ _ h hF => ⟨h.2.1, hF⟩
end Jvm.Pilot.@@N@@
namespace Jvm.Pilot.@@N@@
open Jvm Jvm.ClassFile Sem Op Lib Jvm.Free Jvm.Stand Jvm.Pilot.@@N@@.Jvm.D
/-! MADE BY PROGRAM (witnessworld.py) out of the Statement's table words and the real class files: 20 classes; the members and pool entries that the words name. The judged class is class 1, her method 3. -/
namespace start1
open Jvm.ClassFile
def u (s : String) : CpInfo := .utf8 (stringToUtf16 s)
/-- a pool by its gaps: so many unusable entries, then the entry; so many at the end -/
def gap : Nat → List CpInfo → List CpInfo
  | 0, r => r
  | n + 1, r => .unusable :: gap n r
def poolList (es : List (Nat × CpInfo)) (last : Nat) : List CpInfo := es.foldr (fun e r => gap e.1 (e.2 :: r)) (gap last [])
def pool (es : List (Nat × CpInfo)) (last : Nat) : Array CpInfo := ⟨poolList es last⟩
def fileOf (pool : Array CpInfo) (this : Nat) (attrs : Array Attribute := #[]) (ms : Array MethodInfo := #[]) (fl : Nat := 33) (sup : Nat := 0) (ifs : Array Nat := #[]) (fds : Array FieldInfo := #[]) : ClassFile where
  minorVersion := 0
  majorVersion := 65
  constantPool := pool
  accessFlags := fl
  thisClass := this
  superClass := sup
  interfaces := ifs
  fields := fds
  methods := ms
  attributes := attrs
def plain (name : String) (sup : Option ClassId) : Class where
  name := name
  kind := .ordinary
  loader := none
  accessFlags := 33
  super := sup
  interfaces := #[]
  cf := none
  fields := #[]
  methods := #[]
  instanceTypes := #[]
  staticTypes := #[]
  resolved := #[]
  callSites := []
  init := .initialized
  statics := none
  mirror := none

def pool0 : Array CpInfo := pool [(5, u "<init>"), (0, u "()V"), (1, .class_ 10), (1, u "java/lang/Object")] 113

def k0c0 : Code := { maxStack := 0, maxLocals := 1, code := object_method_1_code, exceptionTable := #[], attributes := #[] }
def k0m0 : Method := { name := "<init>", desc := "()V", sig := { parameters := [], returnType := none }, accessFlags := 1, code := some k0c0 }
/-- java/lang/Object -/
def k0 : Class := { plain "java/lang/Object" none with
  accessFlags := 33
  interfaces := #[]
  cf := some (fileOf pool0 8 #[] #[{ accessFlags := 1, nameIndex := 5, descriptorIndex := 6, attributes := #[] }] 33 0 #[] #[])
  fields := #[]
  methods := #[k0m0]
  instanceTypes := #[]
  staticTypes := #[]
  resolved := Array.replicate 124 none
  statics := none }

def pool1 : Array CpInfo := pool [(2, .class_ 4), (1, u "java/lang/Object"), (0, u "<init>"), (0, u "()V"), (0, .methodref 8 9), (0, .class_ 10), (0, .nameAndType 11 12), (0, u "java/lang/String"), (0, u "charAt"), (0, u "(I)C"), (0, .methodref 14 15), (0, .class_ 16), (0, .nameAndType 17 12), (0, u "com/example/crossweave/crossweave/PostgreSqlTextOfBytesPinLaw"), (0, u "hex"), (0, .methodref 19 20), (0, .class_ 21), (0, .nameAndType 22 23), (0, u "com/example/crossweave/crossweave/PostgreSqlText"), (0, u "ofBytes"), (0, u "([B)Ljava/lang/String;"), (0, .methodref 8 25), (0, .nameAndType 26 27), (0, u "length"), (0, u "()I"), (0, .methodref 14 29), (0, .nameAndType 30 31), (0, u "pairOk"), (0, u "(Ljava/lang/String;IB)Z"), (3, u "law"), (0, u "(IIII)Z")] 4

def k1m0 : Method := { name := "<init>", desc := "()V", sig := { parameters := [], returnType := none }, accessFlags := 2, code := none }
def k1c1 : Code := { maxStack := 3, maxLocals := 1, code := method_2_code, exceptionTable := #[], attributes := #[] }
def k1m1 : Method := { name := "hex", desc := "(I)C", sig := { parameters := [.int], returnType := some .char }, accessFlags := 10, code := some k1c1 }
def k1c2 : Code := { maxStack := 4, maxLocals := 4, code := method_3_code, exceptionTable := #[], attributes := #[] }
def k1m2 : Method := { name := "pairOk", desc := "(Ljava/lang/String;IB)Z", sig := { parameters := [(.object "java/lang/String"), .int, .byte], returnType := some .boolean }, accessFlags := 10, code := some k1c2 }
def k1c3 : Code := { maxStack := 4, maxLocals := 11, code := code, exceptionTable := #[], attributes := #[] }
def k1m3 : Method := { name := "law", desc := "(IIII)Z", sig := { parameters := [.int, .int, .int, .int], returnType := some .boolean }, accessFlags := 9, code := some k1c3 }
/-- com/example/crossweave/crossweave/PostgreSqlTextOfBytesPinLaw -/
def k1 : Class := { plain "com/example/crossweave/crossweave/PostgreSqlTextOfBytesPinLaw" (some 0) with
  accessFlags := 49
  interfaces := #[]
  cf := some (fileOf pool1 14 #[] #[{ accessFlags := 2, nameIndex := 5, descriptorIndex := 6, attributes := #[] }, { accessFlags := 10, nameIndex := 17, descriptorIndex := 12, attributes := #[] }, { accessFlags := 10, nameIndex := 30, descriptorIndex := 31, attributes := #[] }, { accessFlags := 9, nameIndex := 35, descriptorIndex := 36, attributes := #[] }] 49 2 #[] #[])
  fields := #[]
  methods := #[k1m0, k1m1, k1m2, k1m3]
  instanceTypes := #[]
  staticTypes := #[]
  resolved := Array.replicate 41 none
  statics := none }

def pool2 : Array CpInfo := pool [(1, .class_ 2), (0, u "com/example/crossweave/crossweave/PostgreSqlText"), (1, .class_ 6), (1, u "java/lang/Object"), (0, u "<init>"), (0, u "()V"), (148, .fieldref 1 158), (0, .nameAndType 159 160), (0, u "HEX_DIGITS"), (0, u "[C"), (0, .class_ 162), (0, u "java/lang/String"), (0, .methodref 161 164), (0, .nameAndType 7 165), (0, u "([C)V"), (60, .class_ 228), (1, u "com/example/crossweave/crossweave/PostgreSqlText$Scaled"), (5, u "J"), (2, u "LONG_POWERS_OF_TEN"), (0, u "[J"), (43, u "POWERS_OF_TEN"), (0, u "[Ljava/math/BigInteger;"), (17, u "INFINITY"), (0, u "Ljava/lang/String;"), (1, u "DOUBLE_FRACTION_BITS"), (0, u "I"), (1, u "DOUBLE_LEAST_EXPONENT"), (1, u "FLOAT_FRACTION_BITS"), (1, u "FLOAT_LEAST_EXPONENT"), (1, u "DOUBLE_FIXED_BELOW"), (1, u "FLOAT_FIXED_BELOW"), (1, u "FIXED_FROM"), (1, u "SCALED_DIGITS"), (1, u "MICROS_PER_SECOND"), (0, u "MICROS_PER_MINUTE"), (0, u "MICROS_PER_HOUR"), (0, u "NANOS_PER_MICRO"), (11, u "ofBytes"), (0, u "([B)Ljava/lang/String;")] 23

def k2m0 : Method := { name := "<init>", desc := "()V", sig := { parameters := [], returnType := none }, accessFlags := 2, code := none }
def k2c1 : Code := { maxStack := 5, maxLocals := 3, code := prog_4_method_7_code, exceptionTable := #[], attributes := #[] }
def k2m1 : Method := { name := "ofBytes", desc := "([B)Ljava/lang/String;", sig := { parameters := [(.array .byte)], returnType := some (.object "java/lang/String") }, accessFlags := 8, code := some k2c1 }
/-- com/example/crossweave/crossweave/PostgreSqlText -/
def k2 : Class := { plain "com/example/crossweave/crossweave/PostgreSqlText" (some 0) with
  accessFlags := 48
  interfaces := #[]
  cf := some (fileOf pool2 1 #[.nestMembers #[226]] #[{ accessFlags := 2, nameIndex := 7, descriptorIndex := 8, attributes := #[] }, { accessFlags := 8, nameIndex := 336, descriptorIndex := 337, attributes := #[] }] 48 4 #[] #[{ accessFlags := 26, nameIndex := 301, descriptorIndex := 302, attributes := #[] }, { accessFlags := 26, nameIndex := 304, descriptorIndex := 305, attributes := #[] }, { accessFlags := 26, nameIndex := 307, descriptorIndex := 305, attributes := #[] }, { accessFlags := 26, nameIndex := 309, descriptorIndex := 305, attributes := #[] }, { accessFlags := 26, nameIndex := 311, descriptorIndex := 305, attributes := #[] }, { accessFlags := 26, nameIndex := 313, descriptorIndex := 305, attributes := #[] }, { accessFlags := 26, nameIndex := 315, descriptorIndex := 305, attributes := #[] }, { accessFlags := 26, nameIndex := 317, descriptorIndex := 305, attributes := #[] }, { accessFlags := 26, nameIndex := 319, descriptorIndex := 305, attributes := #[] }, { accessFlags := 26, nameIndex := 237, descriptorIndex := 238, attributes := #[] }, { accessFlags := 26, nameIndex := 282, descriptorIndex := 283, attributes := #[] }, { accessFlags := 26, nameIndex := 321, descriptorIndex := 234, attributes := #[] }, { accessFlags := 26, nameIndex := 322, descriptorIndex := 234, attributes := #[] }, { accessFlags := 26, nameIndex := 323, descriptorIndex := 234, attributes := #[] }, { accessFlags := 26, nameIndex := 324, descriptorIndex := 234, attributes := #[] }, { accessFlags := 26, nameIndex := 159, descriptorIndex := 160, attributes := #[] }])
  fields := #[{ name := "INFINITY", type := (.object "java/lang/String"), accessFlags := 26, slot := 0, constantValue := 0 }, { name := "DOUBLE_FRACTION_BITS", type := .int, accessFlags := 26, slot := 1, constantValue := 0 }, { name := "DOUBLE_LEAST_EXPONENT", type := .int, accessFlags := 26, slot := 2, constantValue := 0 }, { name := "FLOAT_FRACTION_BITS", type := .int, accessFlags := 26, slot := 3, constantValue := 0 }, { name := "FLOAT_LEAST_EXPONENT", type := .int, accessFlags := 26, slot := 4, constantValue := 0 }, { name := "DOUBLE_FIXED_BELOW", type := .int, accessFlags := 26, slot := 5, constantValue := 0 }, { name := "FLOAT_FIXED_BELOW", type := .int, accessFlags := 26, slot := 6, constantValue := 0 }, { name := "FIXED_FROM", type := .int, accessFlags := 26, slot := 7, constantValue := 0 }, { name := "SCALED_DIGITS", type := .int, accessFlags := 26, slot := 8, constantValue := 0 }, { name := "LONG_POWERS_OF_TEN", type := (.array .long), accessFlags := 26, slot := 9, constantValue := 0 }, { name := "POWERS_OF_TEN", type := (.array (.object "java/math/BigInteger")), accessFlags := 26, slot := 10, constantValue := 0 }, { name := "MICROS_PER_SECOND", type := .long, accessFlags := 26, slot := 11, constantValue := 0 }, { name := "MICROS_PER_MINUTE", type := .long, accessFlags := 26, slot := 12, constantValue := 0 }, { name := "MICROS_PER_HOUR", type := .long, accessFlags := 26, slot := 13, constantValue := 0 }, { name := "NANOS_PER_MICRO", type := .long, accessFlags := 26, slot := 14, constantValue := 0 }, { name := "HEX_DIGITS", type := (.array .char), accessFlags := 26, slot := 15, constantValue := 0 }]
  methods := #[k2m0, k2m1]
  instanceTypes := #[]
  staticTypes := #[(.object "java/lang/String"), .int, .int, .int, .int, .int, .int, .int, .int, (.array .long), (.array (.object "java/math/BigInteger")), .long, .long, .long, .long, (.array .char)]
  resolved := Array.replicate 361 none
  statics := some 0 }

def pool3 : Array CpInfo := pool [(1, .class_ 2), (0, u "java/io/Serializable"), (0, .class_ 4), (0, u "java/lang/Object")] 2

/-- java/io/Serializable -/
def k3 : Class := { plain "java/io/Serializable" (some 0) with
  accessFlags := 1537
  interfaces := #[]
  cf := some (fileOf pool3 1 #[] #[] 1537 3 #[] #[])
  fields := #[]
  methods := #[]
  instanceTypes := #[]
  staticTypes := #[]
  resolved := Array.replicate 7 none
  statics := none }

def pool4 : Array CpInfo := pool [(1, .class_ 2), (0, u "java/lang/Comparable"), (0, .class_ 4), (0, u "java/lang/Object")] 7

/-- java/lang/Comparable -/
def k4 : Class := { plain "java/lang/Comparable" (some 0) with
  accessFlags := 1537
  interfaces := #[]
  cf := some (fileOf pool4 1 #[] #[] 1537 3 #[] #[])
  fields := #[]
  methods := #[]
  instanceTypes := #[]
  staticTypes := #[]
  resolved := Array.replicate 12 none
  statics := none }

def pool5 : Array CpInfo := pool [(2, .class_ 4), (1, u "java/lang/CharSequence"), (42, .class_ 48), (0, u "java/lang/CharSequence$1CodePointIterator"), (10, .class_ 60), (0, u "java/lang/CharSequence$1CharIterator"), (5, .class_ 67), (0, u "java/lang/Object")] 63

/-- java/lang/CharSequence -/
def k5 : Class := { plain "java/lang/CharSequence" (some 0) with
  accessFlags := 1537
  interfaces := #[]
  cf := some (fileOf pool5 2 #[.nestMembers #[47, 59]] #[] 1537 66 #[] #[])
  fields := #[]
  methods := #[]
  instanceTypes := #[]
  staticTypes := #[]
  resolved := Array.replicate 131 none
  statics := none }

def pool6 : Array CpInfo := pool [(1, .class_ 2), (0, u "java/lang/constant/Constable"), (0, .class_ 4), (0, u "java/lang/Object")] 6

/-- java/lang/constant/Constable -/
def k6 : Class := { plain "java/lang/constant/Constable" (some 0) with
  accessFlags := 1537
  interfaces := #[]
  cf := some (fileOf pool6 1 #[] #[] 1537 3 #[] #[])
  fields := #[]
  methods := #[]
  instanceTypes := #[]
  staticTypes := #[]
  resolved := Array.replicate 11 none
  statics := none }

def pool7 : Array CpInfo := pool [(1, .class_ 2), (0, u "java/lang/constant/ConstantDesc"), (0, .class_ 4), (0, u "java/lang/Object")] 32

/-- java/lang/constant/ConstantDesc -/
def k7 : Class := { plain "java/lang/constant/ConstantDesc" (some 0) with
  accessFlags := 1537
  interfaces := #[]
  cf := some (fileOf pool7 1 #[] #[] 1537 3 #[] #[])
  fields := #[]
  methods := #[]
  instanceTypes := #[]
  staticTypes := #[]
  resolved := Array.replicate 37 none
  statics := none }

def pool8 : Array CpInfo := pool [(1, .methodref 2 3), (0, .class_ 4), (0, .nameAndType 5 6), (0, u "java/lang/Object"), (0, u "<init>"), (0, u "()V"), (2, .fieldref 10 11), (0, .class_ 12), (0, .nameAndType 13 14), (0, u "java/lang/String"), (0, u "value"), (0, u "[B"), (0, .fieldref 10 16), (0, .nameAndType 17 18), (0, u "coder"), (0, u "B"), (2, u "hash"), (0, u "I"), (2, u "hashIsZero"), (0, u "Z"), (0, .methodref 10 28), (0, .nameAndType 5 29), (0, u "([CIILjava/lang/Void;)V"), (8, .fieldref 10 39), (0, .nameAndType 40 26), (0, u "COMPACT_STRINGS"), (1, .class_ 44), (1, u "java/lang/StringUTF16"), (0, u "compress"), (1, .methodref 42 48), (0, .nameAndType 49 50), (0, u "coderFromArrayLen"), (0, u "([BI)B"), (56, .class_ 109), (1, u "java/lang/StringLatin1"), (32, u "()Z"), (34, .methodref 42 178), (0, .nameAndType 45 179), (0, u "([CII)[B"), (154, u "()I"), (0, .methodref 10 336), (0, .nameAndType 17 337), (0, u "()B"), (25, u "([BI)C"), (27, u "(II)V"), (35, u "(I)C"), (64, .methodref 10 493), (0, .nameAndType 494 142), (0, u "isLatin1"), (0, .methodref 107 496), (0, .nameAndType 497 363), (0, u "charAt"), (3, u "checkIndex"), (5, u "length"), (67, .class_ 576), (0, u "java/lang/CharSequence"), (22, u "CASE_INSENSITIVE_ORDER"), (0, u "Ljava/util/Comparator;"), (409, u "([C)V"), (42, .fieldref 1054 1055), (0, .class_ 1056), (0, .nameAndType 1057 1058), (0, u "jdk/internal/util/Preconditions"), (0, u "SIOOBE_FORMATTER"), (0, u "Ljava/util/function/BiFunction;"), (0, .methodref 1054 1060), (0, .nameAndType 501 1061), (0, u "(IILjava/util/function/BiFunction;)I"), (39, u "serialPersistentFields"), (0, u "[Ljava/io/ObjectStreamField;"), (0, .class_ 1104), (0, u "java/lang/String$CaseInsensitiveComparator"), (1, .class_ 1107), (0, u "java/io/Serializable"), (0, .class_ 1109), (0, u "java/lang/Comparable"), (0, .class_ 1111), (0, u "java/lang/constant/Constable"), (0, .class_ 1113), (0, u "java/lang/constant/ConstantDesc"), (2, u "serialVersionUID"), (0, u "J"), (3, u "REPL"), (0, u "C"), (2, u "LATIN1"), (1, u "UTF16")] 323

def k8m0 : Method := { name := "<init>", desc := "()V", sig := { parameters := [], returnType := none }, accessFlags := 1, code := none }
def k8c1 : Code := { maxStack := 5, maxLocals := 2, code := jdk_42_method_3_code, exceptionTable := #[], attributes := #[] }
def k8m1 : Method := { name := "<init>", desc := "([C)V", sig := { parameters := [(.array .char)], returnType := none }, accessFlags := 1, code := some k8c1 }
def k8c2 : Code := { maxStack := 2, maxLocals := 1, code := jdk_42_method_54_code, exceptionTable := #[], attributes := #[] }
def k8m2 : Method := { name := "length", desc := "()I", sig := { parameters := [], returnType := some .int }, accessFlags := 1, code := some k8c2 }
def k8c3 : Code := { maxStack := 2, maxLocals := 2, code := jdk_42_method_56_code, exceptionTable := #[], attributes := #[] }
def k8m3 : Method := { name := "charAt", desc := "(I)C", sig := { parameters := [.int], returnType := some .char }, accessFlags := 1, code := some k8c3 }
def k8c4 : Code := { maxStack := 4, maxLocals := 6, code := jdk_42_method_149_code, exceptionTable := #[], attributes := #[] }
def k8m4 : Method := { name := "<init>", desc := "([CIILjava/lang/Void;)V", sig := { parameters := [(.array .char), .int, .int, (.object "java/lang/Void")], returnType := none }, accessFlags := 2, code := some k8c4 }
def k8c5 : Code := { maxStack := 1, maxLocals := 1, code := jdk_42_method_152_code, exceptionTable := #[], attributes := #[] }
def k8m5 : Method := { name := "coder", desc := "()B", sig := { parameters := [], returnType := some .byte }, accessFlags := 0, code := some k8c5 }
def k8c6 : Code := { maxStack := 1, maxLocals := 1, code := jdk_42_method_154_code, exceptionTable := #[], attributes := #[] }
def k8m6 : Method := { name := "isLatin1", desc := "()Z", sig := { parameters := [], returnType := some .boolean }, accessFlags := 0, code := some k8c6 }
def k8c7 : Code := { maxStack := 3, maxLocals := 2, code := jdk_42_method_155_code, exceptionTable := #[], attributes := #[] }
def k8m7 : Method := { name := "checkIndex", desc := "(II)V", sig := { parameters := [.int, .int], returnType := none }, accessFlags := 8, code := some k8c7 }
/-- java/lang/String -/
def k8 : Class := { plain "java/lang/String" (some 0) with
  accessFlags := 49
  interfaces := #[3, 4, 5, 6, 7]
  cf := some (fileOf pool8 10 #[.nestMembers #[1103]] #[{ accessFlags := 1, nameIndex := 5, descriptorIndex := 6, attributes := #[] }, { accessFlags := 1, nameIndex := 5, descriptorIndex := 1010, attributes := #[] }, { accessFlags := 1, nameIndex := 507, descriptorIndex := 334, attributes := #[] }, { accessFlags := 1, nameIndex := 497, descriptorIndex := 427, attributes := #[] }, { accessFlags := 2, nameIndex := 5, descriptorIndex := 29, attributes := #[] }, { accessFlags := 0, nameIndex := 17, descriptorIndex := 337, attributes := #[] }, { accessFlags := 0, nameIndex := 494, descriptorIndex := 142, attributes := #[] }, { accessFlags := 8, nameIndex := 501, descriptorIndex := 391, attributes := #[] }] 49 2 #[1106, 1108, 575, 1110, 1112] #[{ accessFlags := 18, nameIndex := 13, descriptorIndex := 14, attributes := #[] }, { accessFlags := 18, nameIndex := 17, descriptorIndex := 18, attributes := #[] }, { accessFlags := 2, nameIndex := 21, descriptorIndex := 22, attributes := #[] }, { accessFlags := 2, nameIndex := 25, descriptorIndex := 26, attributes := #[] }, { accessFlags := 26, nameIndex := 1116, descriptorIndex := 1117, attributes := #[] }, { accessFlags := 24, nameIndex := 40, descriptorIndex := 26, attributes := #[] }, { accessFlags := 26, nameIndex := 1101, descriptorIndex := 1102, attributes := #[] }, { accessFlags := 26, nameIndex := 1121, descriptorIndex := 1122, attributes := #[] }, { accessFlags := 25, nameIndex := 599, descriptorIndex := 600, attributes := #[] }, { accessFlags := 24, nameIndex := 1125, descriptorIndex := 18, attributes := #[] }, { accessFlags := 24, nameIndex := 1127, descriptorIndex := 18, attributes := #[] }])
  fields := #[{ name := "value", type := (.array .byte), accessFlags := 18, slot := 0, constantValue := 0 }, { name := "coder", type := .byte, accessFlags := 18, slot := 1, constantValue := 0 }, { name := "hash", type := .int, accessFlags := 2, slot := 2, constantValue := 0 }, { name := "hashIsZero", type := .boolean, accessFlags := 2, slot := 3, constantValue := 0 }, { name := "serialVersionUID", type := .long, accessFlags := 26, slot := 0, constantValue := 0 }, { name := "COMPACT_STRINGS", type := .boolean, accessFlags := 24, slot := 1, constantValue := 0 }, { name := "serialPersistentFields", type := (.array (.object "java/io/ObjectStreamField")), accessFlags := 26, slot := 2, constantValue := 0 }, { name := "REPL", type := .char, accessFlags := 26, slot := 3, constantValue := 0 }, { name := "CASE_INSENSITIVE_ORDER", type := (.object "java/util/Comparator"), accessFlags := 25, slot := 4, constantValue := 0 }, { name := "LATIN1", type := .byte, accessFlags := 24, slot := 5, constantValue := 0 }, { name := "UTF16", type := .byte, accessFlags := 24, slot := 6, constantValue := 0 }]
  methods := #[k8m0, k8m1, k8m2, k8m3, k8m4, k8m5, k8m6, k8m7]
  instanceTypes := #[(.array .byte), .byte, .int, .boolean]
  staticTypes := #[.long, .boolean, (.array (.object "java/io/ObjectStreamField")), .char, (.object "java/util/Comparator"), .byte, .byte]
  resolved := Array.replicate 1451 none
  statics := some 1 }

def pool9 : Array CpInfo := pool [(6, .class_ 8), (1, u "java/lang/Object"), (0, u "<init>"), (0, u "()V"), (1, .class_ 14), (1, u "java/lang/StringUTF16"), (31, u "$assertionsDisabled"), (0, u "Z"), (13, u "HI_BYTE_SHIFT"), (0, u "I"), (2, u "LO_BYTE_SHIFT"), (49, .methodref 12 116), (0, .nameAndType 117 118), (0, u "compress"), (0, u "([CI[BII)I"), (3, u "([CII)[B"), (138, u "coderFromArrayLen"), (0, u "([BI)B"), (106, .class_ 371), (1, u "java/lang/StringUTF16$LinesSpliterator"), (58, u "MAX_LENGTH"), (196, .class_ 628), (0, u "java/lang/StringUTF16$CodePointsSpliterator"), (0, .class_ 630), (0, u "java/lang/StringUTF16$CharsSpliterator")] 4

def k9m0 : Method := { name := "<init>", desc := "()V", sig := { parameters := [], returnType := none }, accessFlags := 0, code := none }
def k9c1 : Code := { maxStack := 2, maxLocals := 2, code := jdk_52_method_15_code, exceptionTable := #[], attributes := #[] }
def k9m1 : Method := { name := "coderFromArrayLen", desc := "([BI)B", sig := { parameters := [(.array .byte), .int], returnType := some .byte }, accessFlags := 8, code := some k9c1 }
def k9c2 : Code := { maxStack := 5, maxLocals := 6, code := jdk_52_method_16_code, exceptionTable := #[], attributes := #[] }
def k9m2 : Method := { name := "compress", desc := "([CII)[B", sig := { parameters := [(.array .char), .int, .int], returnType := some (.array .byte) }, accessFlags := 9, code := some k9c2 }
def k9c3 : Code := { maxStack := 3, maxLocals := 7, code := jdk_52_method_21_code, exceptionTable := #[], attributes := #[] }
def k9m3 : Method := { name := "compress", desc := "([CI[BII)I", sig := { parameters := [(.array .char), .int, (.array .byte), .int, .int], returnType := some .int }, accessFlags := 9, code := some k9c3 }
/-- java/lang/StringUTF16 -/
def k9 : Class := { plain "java/lang/StringUTF16" (some 0) with
  accessFlags := 48
  interfaces := #[]
  cf := some (fileOf pool9 12 #[.nestMembers #[627, 629, 369]] #[{ accessFlags := 0, nameIndex := 9, descriptorIndex := 10, attributes := #[] }, { accessFlags := 8, nameIndex := 261, descriptorIndex := 262, attributes := #[] }, { accessFlags := 9, nameIndex := 117, descriptorIndex := 122, attributes := #[] }, { accessFlags := 9, nameIndex := 117, descriptorIndex := 118, attributes := #[] }] 48 6 #[] #[{ accessFlags := 26, nameIndex := 61, descriptorIndex := 62, attributes := #[] }, { accessFlags := 26, nameIndex := 65, descriptorIndex := 62, attributes := #[] }, { accessFlags := 24, nameIndex := 430, descriptorIndex := 62, attributes := #[] }, { accessFlags := 4120, nameIndex := 46, descriptorIndex := 47, attributes := #[] }])
  fields := #[{ name := "HI_BYTE_SHIFT", type := .int, accessFlags := 26, slot := 0, constantValue := 0 }, { name := "LO_BYTE_SHIFT", type := .int, accessFlags := 26, slot := 1, constantValue := 0 }, { name := "MAX_LENGTH", type := .int, accessFlags := 24, slot := 2, constantValue := 0 }, { name := "$assertionsDisabled", type := .boolean, accessFlags := 4120, slot := 3, constantValue := 0 }]
  methods := #[k9m0, k9m1, k9m2, k9m3]
  instanceTypes := #[]
  staticTypes := #[.int, .int, .int, .boolean]
  resolved := Array.replicate 635 none
  statics := none }

def pool10 : Array CpInfo := pool [(1, .class_ 2), (0, u "java/lang/String"), (1, .class_ 6), (1, u "java/lang/Object"), (0, u "<init>"), (0, u "()V"), (0, .methodref 1 10), (0, .nameAndType 11 12), (0, u "checkIndex"), (0, u "(II)V"), (1, .class_ 16), (1, u "java/lang/StringLatin1"), (36, u "([BI)C"), (67, u "$assertionsDisabled"), (0, u "Z"), (98, .class_ 223), (1, u "java/lang/StringLatin1$LinesSpliterator"), (28, u "charAt"), (137, .class_ 391), (0, u "java/lang/StringLatin1$CharsSpliterator")] 3

def k10m0 : Method := { name := "<init>", desc := "()V", sig := { parameters := [], returnType := none }, accessFlags := 0, code := none }
def k10c1 : Code := { maxStack := 2, maxLocals := 2, code := jdk_43_method_2_code, exceptionTable := #[], attributes := #[] }
def k10m1 : Method := { name := "charAt", desc := "([BI)C", sig := { parameters := [(.array .byte), .int], returnType := some .char }, accessFlags := 9, code := some k10c1 }
/-- java/lang/StringLatin1 -/
def k10 : Class := { plain "java/lang/StringLatin1" (some 0) with
  accessFlags := 48
  interfaces := #[]
  cf := some (fileOf pool10 14 #[.nestMembers #[390, 221]] #[{ accessFlags := 0, nameIndex := 7, descriptorIndex := 8, attributes := #[] }, { accessFlags := 9, nameIndex := 252, descriptorIndex := 53, attributes := #[] }] 48 4 #[] #[{ accessFlags := 4120, nameIndex := 121, descriptorIndex := 122, attributes := #[] }])
  fields := #[{ name := "$assertionsDisabled", type := .boolean, accessFlags := 4120, slot := 0, constantValue := 0 }]
  methods := #[k10m0, k10m1]
  instanceTypes := #[]
  staticTypes := #[.boolean]
  resolved := Array.replicate 395 none
  statics := none }

def pool11 : Array CpInfo := pool [(2, .class_ 4), (1, u "java/lang/Object"), (0, u "<init>"), (0, u "()V"), (17, .class_ 26), (1, u "jdk/internal/util/Preconditions"), (6, u "checkIndex"), (21, .class_ 56), (0, u "jdk/internal/util/Preconditions$4"), (57, .class_ 115), (0, u "jdk/internal/util/Preconditions$1"), (7, u "SIOOBE_FORMATTER"), (0, u "Ljava/util/function/BiFunction;"), (0, .class_ 126), (0, u "jdk/internal/util/Preconditions$2"), (3, u "AIOOBE_FORMATTER"), (0, .class_ 132), (0, u "jdk/internal/util/Preconditions$3"), (3, u "IOOBE_FORMATTER"), (41, u "(IILjava/util/function/BiFunction;)I")] 15

def k11m0 : Method := { name := "<init>", desc := "()V", sig := { parameters := [], returnType := none }, accessFlags := 1, code := none }
def k11c1 : Code := { maxStack := 3, maxLocals := 3, code := jdk_41_method_11_code, exceptionTable := #[], attributes := #[] }
def k11m1 : Method := { name := "checkIndex", desc := "(IILjava/util/function/BiFunction;)I", sig := { parameters := [.int, .int, (.object "java/util/function/BiFunction")], returnType := some .int }, accessFlags := 9, code := some k11c1 }
/-- jdk/internal/util/Preconditions -/
def k11 : Class := { plain "jdk/internal/util/Preconditions" (some 0) with
  accessFlags := 33
  interfaces := #[]
  cf := some (fileOf pool11 24 #[.nestMembers #[55, 131, 125, 114]] #[{ accessFlags := 1, nameIndex := 5, descriptorIndex := 6, attributes := #[] }, { accessFlags := 9, nameIndex := 33, descriptorIndex := 178, attributes := #[] }] 33 2 #[] #[{ accessFlags := 25, nameIndex := 123, descriptorIndex := 124, attributes := #[] }, { accessFlags := 25, nameIndex := 130, descriptorIndex := 124, attributes := #[] }, { accessFlags := 25, nameIndex := 136, descriptorIndex := 124, attributes := #[] }])
  fields := #[{ name := "SIOOBE_FORMATTER", type := (.object "java/util/function/BiFunction"), accessFlags := 25, slot := 0, constantValue := 0 }, { name := "AIOOBE_FORMATTER", type := (.object "java/util/function/BiFunction"), accessFlags := 25, slot := 1, constantValue := 0 }, { name := "IOOBE_FORMATTER", type := (.object "java/util/function/BiFunction"), accessFlags := 25, slot := 2, constantValue := 0 }]
  methods := #[k11m0, k11m1]
  instanceTypes := #[]
  staticTypes := #[(.object "java/util/function/BiFunction"), (.object "java/util/function/BiFunction"), (.object "java/util/function/BiFunction")]
  resolved := Array.replicate 194 none
  statics := some 2 }

def pool12 : Array CpInfo := pool [(9, u "<init>"), (6, .class_ 18), (1, u "java/lang/Object"), (0, u "()V"), (1, .class_ 23), (1, u "jdk/internal/util/ArraysSupport"), (0, u "LOG2_ARRAY_LONG_INDEX_SCALE"), (0, u "I"), (2, u "U"), (0, u "Ljdk/internal/misc/Unsafe;"), (8, u "BIG_ENDIAN"), (0, u "Z"), (8, u "LOG2_BYTE_BIT_SIZE"), (4, u "LOG2_ARRAY_INT_INDEX_SCALE"), (54, u "JLA"), (0, u "Ljdk/internal/access/JavaLangAccess;"), (11, u "LOG2_ARRAY_BOOLEAN_INDEX_SCALE"), (9, u "LOG2_ARRAY_BYTE_INDEX_SCALE"), (5, u "LOG2_ARRAY_CHAR_INDEX_SCALE"), (5, u "LOG2_ARRAY_SHORT_INDEX_SCALE"), (18, u "LOG2_ARRAY_FLOAT_INDEX_SCALE"), (24, u "LOG2_ARRAY_DOUBLE_INDEX_SCALE"), (89, u "T_BOOLEAN"), (2, u "T_CHAR"), (1, u "T_FLOAT"), (1, u "T_DOUBLE"), (1, u "T_BYTE"), (1, u "T_SHORT"), (1, u "T_INT"), (1, u "T_LONG"), (1, u "SOFT_MAX_ARRAY_LENGTH")] 83

def k12m0 : Method := { name := "<init>", desc := "()V", sig := { parameters := [], returnType := none }, accessFlags := 2, code := none }
/-- jdk/internal/util/ArraysSupport -/
def k12 : Class := { plain "jdk/internal/util/ArraysSupport" (some 0) with
  accessFlags := 33
  interfaces := #[]
  cf := some (fileOf pool12 21 #[] #[{ accessFlags := 2, nameIndex := 9, descriptorIndex := 19, attributes := #[] }] 33 16 #[] #[{ accessFlags := 24, nameIndex := 28, descriptorIndex := 29, attributes := #[] }, { accessFlags := 26, nameIndex := 38, descriptorIndex := 39, attributes := #[] }, { accessFlags := 25, nameIndex := 121, descriptorIndex := 25, attributes := #[] }, { accessFlags := 25, nameIndex := 131, descriptorIndex := 25, attributes := #[] }, { accessFlags := 25, nameIndex := 137, descriptorIndex := 25, attributes := #[] }, { accessFlags := 25, nameIndex := 143, descriptorIndex := 25, attributes := #[] }, { accessFlags := 25, nameIndex := 53, descriptorIndex := 25, attributes := #[] }, { accessFlags := 25, nameIndex := 24, descriptorIndex := 25, attributes := #[] }, { accessFlags := 25, nameIndex := 162, descriptorIndex := 25, attributes := #[] }, { accessFlags := 25, nameIndex := 187, descriptorIndex := 25, attributes := #[] }, { accessFlags := 26, nameIndex := 48, descriptorIndex := 25, attributes := #[] }, { accessFlags := 25, nameIndex := 277, descriptorIndex := 25, attributes := #[] }, { accessFlags := 25, nameIndex := 280, descriptorIndex := 25, attributes := #[] }, { accessFlags := 25, nameIndex := 282, descriptorIndex := 25, attributes := #[] }, { accessFlags := 25, nameIndex := 284, descriptorIndex := 25, attributes := #[] }, { accessFlags := 25, nameIndex := 286, descriptorIndex := 25, attributes := #[] }, { accessFlags := 25, nameIndex := 288, descriptorIndex := 25, attributes := #[] }, { accessFlags := 25, nameIndex := 290, descriptorIndex := 25, attributes := #[] }, { accessFlags := 25, nameIndex := 292, descriptorIndex := 25, attributes := #[] }, { accessFlags := 26, nameIndex := 108, descriptorIndex := 109, attributes := #[] }, { accessFlags := 25, nameIndex := 294, descriptorIndex := 25, attributes := #[] }])
  fields := #[{ name := "U", type := (.object "jdk/internal/misc/Unsafe"), accessFlags := 24, slot := 0, constantValue := 0 }, { name := "BIG_ENDIAN", type := .boolean, accessFlags := 26, slot := 1, constantValue := 0 }, { name := "LOG2_ARRAY_BOOLEAN_INDEX_SCALE", type := .int, accessFlags := 25, slot := 2, constantValue := 0 }, { name := "LOG2_ARRAY_BYTE_INDEX_SCALE", type := .int, accessFlags := 25, slot := 3, constantValue := 0 }, { name := "LOG2_ARRAY_CHAR_INDEX_SCALE", type := .int, accessFlags := 25, slot := 4, constantValue := 0 }, { name := "LOG2_ARRAY_SHORT_INDEX_SCALE", type := .int, accessFlags := 25, slot := 5, constantValue := 0 }, { name := "LOG2_ARRAY_INT_INDEX_SCALE", type := .int, accessFlags := 25, slot := 6, constantValue := 0 }, { name := "LOG2_ARRAY_LONG_INDEX_SCALE", type := .int, accessFlags := 25, slot := 7, constantValue := 0 }, { name := "LOG2_ARRAY_FLOAT_INDEX_SCALE", type := .int, accessFlags := 25, slot := 8, constantValue := 0 }, { name := "LOG2_ARRAY_DOUBLE_INDEX_SCALE", type := .int, accessFlags := 25, slot := 9, constantValue := 0 }, { name := "LOG2_BYTE_BIT_SIZE", type := .int, accessFlags := 26, slot := 10, constantValue := 0 }, { name := "T_BOOLEAN", type := .int, accessFlags := 25, slot := 11, constantValue := 0 }, { name := "T_CHAR", type := .int, accessFlags := 25, slot := 12, constantValue := 0 }, { name := "T_FLOAT", type := .int, accessFlags := 25, slot := 13, constantValue := 0 }, { name := "T_DOUBLE", type := .int, accessFlags := 25, slot := 14, constantValue := 0 }, { name := "T_BYTE", type := .int, accessFlags := 25, slot := 15, constantValue := 0 }, { name := "T_SHORT", type := .int, accessFlags := 25, slot := 16, constantValue := 0 }, { name := "T_INT", type := .int, accessFlags := 25, slot := 17, constantValue := 0 }, { name := "T_LONG", type := .int, accessFlags := 25, slot := 18, constantValue := 0 }, { name := "JLA", type := (.object "jdk/internal/access/JavaLangAccess"), accessFlags := 26, slot := 19, constantValue := 0 }, { name := "SOFT_MAX_ARRAY_LENGTH", type := .int, accessFlags := 25, slot := 20, constantValue := 0 }]
  methods := #[k12m0]
  instanceTypes := #[]
  staticTypes := #[(.object "jdk/internal/misc/Unsafe"), .boolean, .int, .int, .int, .int, .int, .int, .int, .int, .int, .int, .int, .int, .int, .int, .int, .int, .int, (.object "jdk/internal/access/JavaLangAccess"), .int]
  resolved := Array.replicate 378 none
  statics := none }

def pool13 : Array CpInfo := pool [(1, u "java/lang/Cloneable"), (0, .class_ 1), (0, u "java/lang/Object"), (0, .class_ 3)] 3

/-- java/lang/Cloneable -/
def k13 : Class := { plain "java/lang/Cloneable" (some 0) with
  accessFlags := 1537
  interfaces := #[]
  cf := some (fileOf pool13 2 #[] #[] 1537 4 #[] #[])
  fields := #[]
  methods := #[]
  instanceTypes := #[]
  staticTypes := #[]
  resolved := Array.replicate 8 none
  statics := none }

/-- the primitive byte -/
def k14 : Class := { plain "byte" none with kind := .primitive 'B', accessFlags := 0x411 }
/-- [B -/
def k15 : Class := { plain "[B" (some 0) with kind := .array 14 .byte, interfaces := #[13, 3], accessFlags := 1041 }

/-- the primitive char -/
def k16 : Class := { plain "char" none with kind := .primitive 'C', accessFlags := 0x411 }
/-- [C -/
def k17 : Class := { plain "[C" (some 0) with kind := .array 16 .char, interfaces := #[13, 3], accessFlags := 1041 }

/-- the primitive int -/
def k18 : Class := { plain "int" none with kind := .primitive 'I', accessFlags := 0x411 }
/-- [I -/
def k19 : Class := { plain "[I" (some 0) with kind := .array 18 .int, interfaces := #[13, 3], accessFlags := 1041 }

def heap : Heap := #[{ cls := 2, slots := #[.null, .int 0, .int 0, .int 0, .int 0, .int 0, .int 0, .int 0, .int 0, .null, .null, .long 0, .long 0, .long 0, .long 0, .ref 3], vm := .statics 2 },
  { cls := 8, slots := #[.long 0, .int 1, .null, .int 0, .null, .int 0, .int 0], vm := .statics 8 },
  { cls := 11, slots := #[.null, .null, .null], vm := .statics 11 },
  { cls := 17, slots := #[.int 48, .int 49, .int 50, .int 51, .int 52, .int 53, .int 54, .int 55, .int 56, .int 57, .int 97, .int 98, .int 99, .int 100, .int 101, .int 102], vm := .none }]
def classes : Array Class := #[k0, k1, k2, k3, k4, k5, k6, k7, k8, k9, k10, k11, k12, k13, k14, k15, k16, k17, k18, k19]
def interned : List (Array UInt16 × Addr) := []
def slotsUsed : Nat := 42
def theMethod : MethodId := ⟨1, 3⟩
def args0 : Array Value := #[.int 5, .int 5, .int 5, .int 5]
def aboutOver (below : List Frame) : State where
  vm := { classes := classes, interned := interned.toArray }
  heap := heap
  slotsUsed := slotsUsed
  threads := #[{ frames := .invoking theMethod args0 :: below }]
def below0 : List Frame := [.native { method := ⟨0, 0⟩, args := #[] }]
def about1 : State := aboutOver below0
def p0 : Program := .bare "" "" ""
def e0 : Env := launch0.env 0 0 0
theorem w_frames : about1.frames = Frame.invoking theMethod args0 :: below0 := rfl
set_option maxRecDepth 65536 in
theorem w_args : argsFit about1.vm theMethod args0 = true := by decide +kernel
set_option maxRecDepth 65536 in
theorem w_heap : heapFits about1 = true := by decide +kernel
set_option maxRecDepth 65536 in
theorem w_runnable : about1.curStatus? = some .runnable := by decide +kernel
set_option maxRecDepth 65536 in
theorem w_alone : about1.alone = true := by decide +kernel
set_option maxRecDepth 65536 in
theorem w_named : about1.methodNamed? x = some theMethod := by decide +kernel
set_option maxRecDepth 65536 in
theorem w_hears : about1.hears theMethod below0 = true := by decide +kernel
set_option maxRecDepth 65536 in
theorem w_ripe : about1.ripe theMethod args0 below0 = true := by decide +kernel
theorem w_running : about1.status = .running := rfl
set_option maxRecDepth 65536 in
theorem w_room : about1.hasRoom e0.platform room_1 = true :=
  launch0.hasRoom_least _ room_1 (by decide +kernel) (by decide +kernel) (by decide +kernel) (by decide +kernel) (by decide +kernel) (by decide +kernel)
theorem allAtoms_all (ts : List Jvm.Cond) (a : Array Jvm.Value) (st : Jvm.State) : (allAtoms ts).before a st = ts.all (fun c => c.before a st) := by
  induction ts with
  | nil => rfl
  | cons c t ih =>
    show (Jvm.Cond.and c (allAtoms t)).before a st = _
    rw [Jvm.Cond.before_and, ih, List.all_cons]
def words1 : List Jvm.Cond := Jvm.Cond.code x code maxLocals ret :: tables_1
/-- a 'code' word, met by the world's own term for the bytes: nothing is compared byte by byte -/
theorem code_word {y : MethodName} {bytes : ByteArray} {mx : Nat} {rt : Option FieldType} {a : Array Value} {s : State} {m : MethodId} {meth : Method} {c : Code} (h1 : s.methodNamed? y = some m) (h2 : s.vm.method? m = some meth) (h3 : meth.code = some c) (h4 : c.code = bytes)
    (h5 : (c.maxLocals == mx && c.exceptionTable.isEmpty && decide (c.maxStack ≤ mostOperands) && decide (meth.sig.returnType = rt) && !meth.locks && decide (parseMethodDescriptor y.desc = some meth.sig)) = true) : (Jvm.Cond.code y bytes mx rt).before a s = true := by
  simp only [Bool.and_eq_true, beq_iff_eq, Bool.not_eq_true', decide_eq_true_eq] at h5
  obtain ⟨⟨⟨⟨⟨g1, g2⟩, g3⟩, g4⟩, g5⟩, g6⟩ := h5
  simp [Cond.before, Cond.holds, Cond.value, h1, h2, h3, h4, g1, g2, g3, g4, g5, g6]
def isCode : Jvm.Cond → Bool
  | .code _ _ _ _ => true
  | _ => false
theorem all_split {L : List Jvm.Cond} {P : Jvm.Cond → Bool} (h1 : L.all (fun c => isCode c || P c) = true) (h2 : ∀ c ∈ L.filter isCode, P c = true) : L.all P = true := by
  refine List.all_eq_true.mpr fun c hc => ?_
  have h := List.all_eq_true.mp h1 c hc
  rcases Bool.eq_false_or_eq_true (isCode c) with hi | hi
  · exact h2 c (List.mem_filter.mpr ⟨hc, hi⟩)
  · simpa [hi] using h
set_option maxRecDepth 65536 in
theorem w_c0 : (Jvm.Cond.code x code maxLocals ret).before args0 about1 = true := code_word (m := ⟨1, 3⟩) (meth := k1m3) (c := k1c3) (by decide +kernel) rfl rfl rfl (by decide +kernel)
set_option maxRecDepth 65536 in
theorem w_c1 : (Jvm.Cond.code ({ cls := "com/example/crossweave/crossweave/PostgreSqlText", name := "ofBytes", desc := "([B)Ljava/lang/String;" } : Jvm.MethodName) prog_4_method_7_code (3 : Nat) (Option.some (Jvm.ClassFile.FieldType.object "java/lang/String"))).before args0 about1 = true := code_word (m := ⟨2, 1⟩) (meth := k2m1) (c := k2c1) (by decide +kernel) rfl rfl rfl (by decide +kernel)
set_option maxRecDepth 65536 in
theorem w_c2 : (Jvm.Cond.code ({ cls := "java/lang/String", name := "<init>", desc := "([C)V" } : Jvm.MethodName) jdk_42_method_3_code (2 : Nat) (Option.none : Option Jvm.ClassFile.FieldType)).before args0 about1 = true := code_word (m := ⟨8, 1⟩) (meth := k8m1) (c := k8c1) (by decide +kernel) rfl rfl rfl (by decide +kernel)
set_option maxRecDepth 65536 in
theorem w_c3 : (Jvm.Cond.code ({ cls := "java/lang/String", name := "<init>", desc := "([CIILjava/lang/Void;)V" } : Jvm.MethodName) jdk_42_method_149_code (6 : Nat) (Option.none : Option Jvm.ClassFile.FieldType)).before args0 about1 = true := code_word (m := ⟨8, 4⟩) (meth := k8m4) (c := k8c4) (by decide +kernel) rfl rfl rfl (by decide +kernel)
set_option maxRecDepth 65536 in
theorem w_c4 : (Jvm.Cond.code ({ cls := "java/lang/Object", name := "<init>", desc := "()V" } : Jvm.MethodName) object_method_1_code (1 : Nat) (Option.none : Option Jvm.ClassFile.FieldType)).before args0 about1 = true := code_word (m := ⟨0, 0⟩) (meth := k0m0) (c := k0c0) (by decide +kernel) rfl rfl rfl (by decide +kernel)
set_option maxRecDepth 65536 in
theorem w_c5 : (Jvm.Cond.code ({ cls := "java/lang/StringUTF16", name := "compress", desc := "([CII)[B" } : Jvm.MethodName) jdk_52_method_16_code (6 : Nat) (Option.some (Jvm.ClassFile.FieldType.array Jvm.ClassFile.FieldType.byte))).before args0 about1 = true := code_word (m := ⟨9, 2⟩) (meth := k9m2) (c := k9c2) (by decide +kernel) rfl rfl rfl (by decide +kernel)
set_option maxRecDepth 65536 in
theorem w_c6 : (Jvm.Cond.code ({ cls := "java/lang/StringUTF16", name := "compress", desc := "([CI[BII)I" } : Jvm.MethodName) jdk_52_method_21_code (7 : Nat) (Option.some Jvm.ClassFile.FieldType.int)).before args0 about1 = true := code_word (m := ⟨9, 3⟩) (meth := k9m3) (c := k9c3) (by decide +kernel) rfl rfl rfl (by decide +kernel)
set_option maxRecDepth 65536 in
theorem w_c7 : (Jvm.Cond.code ({ cls := "java/lang/StringUTF16", name := "coderFromArrayLen", desc := "([BI)B" } : Jvm.MethodName) jdk_52_method_15_code (2 : Nat) (Option.some Jvm.ClassFile.FieldType.byte)).before args0 about1 = true := code_word (m := ⟨9, 1⟩) (meth := k9m1) (c := k9c1) (by decide +kernel) rfl rfl rfl (by decide +kernel)
set_option maxRecDepth 65536 in
theorem w_c8 : (Jvm.Cond.code ({ cls := "java/lang/String", name := "length", desc := "()I" } : Jvm.MethodName) jdk_42_method_54_code (1 : Nat) (Option.some Jvm.ClassFile.FieldType.int)).before args0 about1 = true := code_word (m := ⟨8, 2⟩) (meth := k8m2) (c := k8c2) (by decide +kernel) rfl rfl rfl (by decide +kernel)
set_option maxRecDepth 65536 in
theorem w_c9 : (Jvm.Cond.code ({ cls := "java/lang/String", name := "coder", desc := "()B" } : Jvm.MethodName) jdk_42_method_152_code (1 : Nat) (Option.some Jvm.ClassFile.FieldType.byte)).before args0 about1 = true := code_word (m := ⟨8, 5⟩) (meth := k8m5) (c := k8c5) (by decide +kernel) rfl rfl rfl (by decide +kernel)
set_option maxRecDepth 65536 in
theorem w_c10 : (Jvm.Cond.code ({ cls := "java/lang/String", name := "charAt", desc := "(I)C" } : Jvm.MethodName) jdk_42_method_56_code (2 : Nat) (Option.some Jvm.ClassFile.FieldType.char)).before args0 about1 = true := code_word (m := ⟨8, 3⟩) (meth := k8m3) (c := k8c3) (by decide +kernel) rfl rfl rfl (by decide +kernel)
set_option maxRecDepth 65536 in
theorem w_c11 : (Jvm.Cond.code ({ cls := "java/lang/String", name := "isLatin1", desc := "()Z" } : Jvm.MethodName) jdk_42_method_154_code (1 : Nat) (Option.some Jvm.ClassFile.FieldType.boolean)).before args0 about1 = true := code_word (m := ⟨8, 6⟩) (meth := k8m6) (c := k8c6) (by decide +kernel) rfl rfl rfl (by decide +kernel)
set_option maxRecDepth 65536 in
theorem w_c12 : (Jvm.Cond.code ({ cls := "java/lang/StringLatin1", name := "charAt", desc := "([BI)C" } : Jvm.MethodName) jdk_43_method_2_code (2 : Nat) (Option.some Jvm.ClassFile.FieldType.char)).before args0 about1 = true := code_word (m := ⟨10, 1⟩) (meth := k10m1) (c := k10c1) (by decide +kernel) rfl rfl rfl (by decide +kernel)
set_option maxRecDepth 65536 in
theorem w_c13 : (Jvm.Cond.code ({ cls := "java/lang/String", name := "checkIndex", desc := "(II)V" } : Jvm.MethodName) jdk_42_method_155_code (2 : Nat) (Option.none : Option Jvm.ClassFile.FieldType)).before args0 about1 = true := code_word (m := ⟨8, 7⟩) (meth := k8m7) (c := k8c7) (by decide +kernel) rfl rfl rfl (by decide +kernel)
set_option maxRecDepth 65536 in
theorem w_c14 : (Jvm.Cond.code ({ cls := "jdk/internal/util/Preconditions", name := "checkIndex", desc := "(IILjava/util/function/BiFunction;)I" } : Jvm.MethodName) jdk_41_method_11_code (3 : Nat) (Option.some Jvm.ClassFile.FieldType.int)).before args0 about1 = true := code_word (m := ⟨11, 1⟩) (meth := k11m1) (c := k11c1) (by decide +kernel) rfl rfl rfl (by decide +kernel)
set_option maxRecDepth 65536 in
theorem w_c15 : (Jvm.Cond.code ({ cls := "com/example/crossweave/crossweave/PostgreSqlTextOfBytesPinLaw", name := "pairOk", desc := "(Ljava/lang/String;IB)Z" } : Jvm.MethodName) method_3_code (4 : Nat) (Option.some Jvm.ClassFile.FieldType.boolean)).before args0 about1 = true := code_word (m := ⟨1, 2⟩) (meth := k1m2) (c := k1c2) (by decide +kernel) rfl rfl rfl (by decide +kernel)
set_option maxRecDepth 65536 in
theorem w_c16 : (Jvm.Cond.code ({ cls := "com/example/crossweave/crossweave/PostgreSqlTextOfBytesPinLaw", name := "hex", desc := "(I)C" } : Jvm.MethodName) method_2_code (1 : Nat) (Option.some Jvm.ClassFile.FieldType.char)).before args0 about1 = true := code_word (m := ⟨1, 1⟩) (meth := k1m1) (c := k1c1) (by decide +kernel) rfl rfl rfl (by decide +kernel)
def codes1 : List Jvm.Cond := [Jvm.Cond.code x code maxLocals ret, Jvm.Cond.code ({ cls := "com/example/crossweave/crossweave/PostgreSqlText", name := "ofBytes", desc := "([B)Ljava/lang/String;" } : Jvm.MethodName) prog_4_method_7_code (3 : Nat) (Option.some (Jvm.ClassFile.FieldType.object "java/lang/String")), Jvm.Cond.code ({ cls := "java/lang/String", name := "<init>", desc := "([C)V" } : Jvm.MethodName) jdk_42_method_3_code (2 : Nat) (Option.none : Option Jvm.ClassFile.FieldType), Jvm.Cond.code ({ cls := "java/lang/String", name := "<init>", desc := "([CIILjava/lang/Void;)V" } : Jvm.MethodName) jdk_42_method_149_code (6 : Nat) (Option.none : Option Jvm.ClassFile.FieldType), Jvm.Cond.code ({ cls := "java/lang/Object", name := "<init>", desc := "()V" } : Jvm.MethodName) object_method_1_code (1 : Nat) (Option.none : Option Jvm.ClassFile.FieldType), Jvm.Cond.code ({ cls := "java/lang/StringUTF16", name := "compress", desc := "([CII)[B" } : Jvm.MethodName) jdk_52_method_16_code (6 : Nat) (Option.some (Jvm.ClassFile.FieldType.array Jvm.ClassFile.FieldType.byte)), Jvm.Cond.code ({ cls := "java/lang/StringUTF16", name := "compress", desc := "([CI[BII)I" } : Jvm.MethodName) jdk_52_method_21_code (7 : Nat) (Option.some Jvm.ClassFile.FieldType.int), Jvm.Cond.code ({ cls := "java/lang/StringUTF16", name := "coderFromArrayLen", desc := "([BI)B" } : Jvm.MethodName) jdk_52_method_15_code (2 : Nat) (Option.some Jvm.ClassFile.FieldType.byte), Jvm.Cond.code ({ cls := "java/lang/String", name := "length", desc := "()I" } : Jvm.MethodName) jdk_42_method_54_code (1 : Nat) (Option.some Jvm.ClassFile.FieldType.int), Jvm.Cond.code ({ cls := "java/lang/String", name := "coder", desc := "()B" } : Jvm.MethodName) jdk_42_method_152_code (1 : Nat) (Option.some Jvm.ClassFile.FieldType.byte), Jvm.Cond.code ({ cls := "java/lang/String", name := "charAt", desc := "(I)C" } : Jvm.MethodName) jdk_42_method_56_code (2 : Nat) (Option.some Jvm.ClassFile.FieldType.char), Jvm.Cond.code ({ cls := "java/lang/String", name := "isLatin1", desc := "()Z" } : Jvm.MethodName) jdk_42_method_154_code (1 : Nat) (Option.some Jvm.ClassFile.FieldType.boolean), Jvm.Cond.code ({ cls := "java/lang/StringLatin1", name := "charAt", desc := "([BI)C" } : Jvm.MethodName) jdk_43_method_2_code (2 : Nat) (Option.some Jvm.ClassFile.FieldType.char), Jvm.Cond.code ({ cls := "java/lang/String", name := "checkIndex", desc := "(II)V" } : Jvm.MethodName) jdk_42_method_155_code (2 : Nat) (Option.none : Option Jvm.ClassFile.FieldType), Jvm.Cond.code ({ cls := "jdk/internal/util/Preconditions", name := "checkIndex", desc := "(IILjava/util/function/BiFunction;)I" } : Jvm.MethodName) jdk_41_method_11_code (3 : Nat) (Option.some Jvm.ClassFile.FieldType.int), Jvm.Cond.code ({ cls := "com/example/crossweave/crossweave/PostgreSqlTextOfBytesPinLaw", name := "pairOk", desc := "(Ljava/lang/String;IB)Z" } : Jvm.MethodName) method_3_code (4 : Nat) (Option.some Jvm.ClassFile.FieldType.boolean), Jvm.Cond.code ({ cls := "com/example/crossweave/crossweave/PostgreSqlTextOfBytesPinLaw", name := "hex", desc := "(I)C" } : Jvm.MethodName) method_2_code (1 : Nat) (Option.some Jvm.ClassFile.FieldType.char)]
set_option maxRecDepth 65536 in
theorem codes_eq : words1.filter isCode = codes1 := rfl
theorem w_codes : ∀ c ∈ words1.filter isCode, c.before args0 about1 = true := by
  rw [codes_eq]
  intro c hc
  simp only [codes1, List.mem_cons, List.not_mem_nil, or_false] at hc
  rcases hc with rfl | rfl | rfl | rfl | rfl | rfl | rfl | rfl | rfl | rfl | rfl | rfl | rfl | rfl | rfl | rfl | rfl
  · exact w_c0
  · exact w_c1
  · exact w_c2
  · exact w_c3
  · exact w_c4
  · exact w_c5
  · exact w_c6
  · exact w_c7
  · exact w_c8
  · exact w_c9
  · exact w_c10
  · exact w_c11
  · exact w_c12
  · exact w_c13
  · exact w_c14
  · exact w_c15
  · exact w_c16
set_option maxRecDepth 65536 in
theorem w_t1 : (words1.take 24).all (fun c => isCode c || c.before args0 about1) = true := by decide +kernel
set_option maxRecDepth 65536 in
theorem w_t2 : ((words1.drop 24).take 24).all (fun c => isCode c || c.before args0 about1) = true := by decide +kernel
set_option maxRecDepth 65536 in
theorem w_t3 : (((words1.drop 24).drop 24).take 24).all (fun c => isCode c || c.before args0 about1) = true := by decide +kernel
set_option maxRecDepth 65536 in
theorem w_t4 : (((words1.drop 24).drop 24).drop 24).all (fun c => isCode c || c.before args0 about1) = true := by decide +kernel
theorem w_tables : (allAtoms (Jvm.Cond.code x code maxLocals ret :: tables_1)).before args0 about1 = true := by
  rw [allAtoms_all]
  show words1.all (fun c => c.before args0 about1) = true
  refine all_split ?_ w_codes
  rw [← List.take_append_drop 24 words1, List.all_append, w_t1, ← List.take_append_drop 24 (words1.drop 24), List.all_append, w_t2, ← List.take_append_drop 24 ((words1.drop 24).drop 24), List.all_append, w_t3, w_t4]
  rfl
set_option maxRecDepth 65536 in
theorem w_rest : rest_1_c.before args0 about1 = true := by decide +kernel
set_option maxRecDepth 65536 in
theorem w_case : (Jvm.Cond.and given_1 narrow_1).before args0 about1 = true := by decide +kernel
theorem w_applies : (headSpec (Jvm.Cond.code x code maxLocals ret :: tables_1) room_1).applies x e0.platform about1 = true :=
  (Spec.applies_iff w_frames).mpr ⟨w_running, w_runnable, w_alone, w_named, w_hears, w_ripe, w_room, w_tables⟩
theorem atStart : AtStart classFile x code maxLocals ret World_1 tables_1 room_1 Calls_1 rest_1 Pre_1 launch0 p0 e0 about1 theMethod args0 below0 :=
  ⟨lists_1, trivial, launch0.admits_env _ _ _, launch0.least_env, fairChoices_fair.cas, fairChoices_fair.clock, w_frames, w_args, w_heap, w_applies, trivial, w_rest, w_case⟩
end start1
theorem witness_1 : WitnessClaimed_1 := ⟨start1.p0, start1.e0, start1.about1, start1.theMethod, start1.args0, start1.below0, start1.atStart⟩
end Jvm.Pilot.@@N@@
