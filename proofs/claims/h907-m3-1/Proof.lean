import JvmDerived
import JvmDerived.Pilot.@@N@@Statement
import JvmDerived.Pilot.@@N@@Code
set_option linter.unusedVariables false
set_option linter.unusedSimpArgs false
namespace Jvm.Pilot.@@N@@
open Jvm Jvm.ClassFile Sem Op Lib Jvm.Free Jvm.Stand Jvm.LawKit Jvm.RoadKit Bundle Jvm.Pilot.@@N@@.Jvm.D
section Own
variable {p : Program} {l : Launch} {e : Env} {R : Room} {s : State} {m : MethodId} {args : Array Value} {below : List Frame} {meth : Method} {c : Code} {T : State} {locs : List Loc} {cells slots : Nat} {Z : State} {a0 : Array Value} {h : Heap} {Φ : Outcome → State → Prop}
/-- what is left of a walk: from S the invocation ends as Φ says -/
def OGo (tb : Tables) (e : Env) (below : List Frame) (Φ : Outcome → State → Prop) (S : State) : Prop := ∃ s₂ o, Steps tb e below S s₂ ∧ s₂.status = .running ∧ Ended s₂ below o ∧ Φ o s₂
theorem OGo.st {tb : Tables} {S S' : State} (h : ∀ t, Steps tb e below S' t → Steps tb e below S t) (g : OGo tb e below Φ S') : OGo tb e below Φ S := by
  obtain ⟨s₂, o, h1, r⟩ := g
  exact ⟨s₂, o, h _ h1, r⟩
theorem OGo.fin (X : Stand p l e R s m args below meth c T locs cells slots) (hlk : meth.locks = false) {v : Option Value} (hv : meth.sig.returnType = none → v = none) {g : JFrame} {k n : Nat} (hk : cells ≤ k) (hn : slots ≤ n)
    (st : ∀ fs, (∀ (f : JFrame) (acts : List Action), f.method = m → f.locked = none → f.entered = [] → (doReturn e (T.setTop f) acts v).1 = T.setFrames fs) → Steps p.tables e below (T.setTop g) (T.setFrames fs))
    (hq : ∀ U, U.heap = T.heap → FrameEnd s (.returned v) U locs k n → Φ (.returned v) U) : OGo p.tables e below Φ (T.setTop g) := by
  obtain ⟨fs, hr, hrun, hended, hW, hsame⟩ := X.leave (v := v) hv hlk
  exact ⟨_, _, st fs hr, hrun, hended, hq _ rfl ⟨⟨_, rfl⟩, hW, hsame.mono hk hn⟩⟩
/-- a contract: what every body's theorem says -/
abbrev OCon (l : Launch) (Z : State) (y : MethodName) (bytes : ByteArray) (maxL : Nat) (ret : Option FieldType) (ws : List Jvm.Cond) (rm : Room) (as' : Array Value) (h0 : Heap) (Q : Option Value → Heap → List Loc → Prop) : Prop :=
  MetFree l y (head1 (Jvm.Cond.code y bytes maxL ret :: ws) rm) (fun a U => a = as' ∧ Z.Warmed39 U.vm ∧ U.heap = h0) (fun _ _ _ _ _ => True) (fun _ U o U' => ∃ v L, o = .returned v ∧ Q v U'.heap L ∧ FrameEnd U o U' L rm.cells rm.slots)
theorem OCon.of {y : MethodName} {bytes : ByteArray} {maxL : Nat} {ret : Option FieldType} {ws : List Jvm.Cond} {rm : Room} {as' : Array Value} {h0 : Heap} {Q : Option Value → Heap → List Loc → Prop} (hpl : plainFor y = true)
    (H : ∀ (p : Program) (e : Env) (s : State) (m : MethodId) (below : List Frame) (meth : Method) (c : Code) (s₁ : State) (Φ : Outcome → State → Prop), Stand p l e rm s m as' below meth c s₁ [] 0 0 → p.tables.exec = Jvm.exec → c.code = bytes → c.maxLocals = maxL → s.vm.findClass y.cls = some m.cls → meth.name = y.name → meth.sig.returnType = ret → meth.locks = false → Z.Warmed39 s.vm → s₁.heap = h0 →
      (∀ v L U, Q v U.heap L → FrameEnd s (.returned v) U L rm.cells rm.slots → Φ (.returned v) U) → OGo p.tables e below Φ (s₁.setTop (entryFrame m as' maxL))) :
    OCon l Z y bytes maxL ret ws rm as' h0 Q := by
  refine MetFree.of_bodySF hpl hisR ?_
  intro p e s m args below meth c s₁ Bd hml0 hP hK
  obtain ⟨rfl, hZ, hh⟩ := hP
  have e0 : s₁.heap = h0 := by rw [← hh, Bd.state]; rfl
  exact H p e s m below meth c s₁ _ (Stand.of_body Bd) Bd.exec Bd.bytes hml0 (findClass_of_methodNamed Bd.named) (name_of_methodNamed Bd.named Bd.method).1 Bd.returns Bd.notSynchronized hZ e0 (fun v L U hq hf => ⟨v, L, rfl, hq, hf⟩)
theorem own_callSt (X : Stand p l e R s m args below meth c T locs cells slots) (hx : p.tables.exec = Jvm.exec) (hZ : Z.Warmed39 s.vm) {own : String} {index : Nat} {y : MethodName} {bytes : ByteArray} {maxL : Nat} {ret : Option FieldType} {rm : Room} {as' : Array Value} {Q : Option Value → Heap → List Loc → Prop}
    (hown : s.vm.findClass own = some m.cls) (w1 : (Jvm.Cond.methodLink own index y).before a0 Z = true) (w2 : (Jvm.Cond.static y).before a0 Z = true) (w3 : (Jvm.Cond.initialized y.cls).before a0 Z = true) (w4 : (Jvm.Cond.code y bytes maxL ret).before a0 Z = true) (hy : y.cls ≠ "java/lang/invoke/MethodHandle" ∧ y.cls ≠ "java/lang/invoke/VarHandle")
    (hM : OCon l Z y bytes maxL ret [] rm as' h Q) (eT : T.heap = h) {W : Nat} (hf : rm.frames + 1 ≤ R.frames) (hl : W + (maxL + 11) + rm.locals ≤ R.locals) (hcl : cells + rm.cells ≤ R.cells) (hsl : slots + rm.slots ≤ R.slots)
    {pc : Nat} {ls : Array Slot} {stk : List Value} (hsize : ls.size = c.maxLocals) {argsL rest : List Value} (hlen : ∀ sig, parseMethodDescriptor y.desc = some sig → argsL.length = sig.parameters.length) (has : argsL.toArray = as') (hstack : stk = argsL.reverse ++ rest) (hW : (rest.map fun v => v.category).sum ≤ W)
    (hd : decode c.code pc = .ok (.invokestatic index, 3)) :
    ∃ v T' L, Stand p l e R s m args below meth c T' (locs ++ L) (cells + rm.cells) (slots + rm.slots) ∧ Q v T'.heap L ∧ ∀ target, Steps p.tables e below (T'.setTop (mkF m (pc + 3) ls (v.toList ++ rest))) target → Steps p.tables e below (T.setTop (mkF m pc ls stk)) target := by
  subst has
  obtain ⟨v, vm₁, ⟨T', L', k', n'⟩, -, X', ⟨L, hQ, l1, y1, z1⟩, st⟩ := Jvm.LawKit.callS X hx (y := y) hown (mvT hZ w1) (mvT hZ w2) (mvT hZ w3) (mvT hZ w4) hy (backOf (W := W) hM hZ w4 w3 hf hl) (g := mkF m pc ls stk) rfl hsize (argsL := argsL) (rest := rest) hlen hstack (by simpa using hW) hd (fun _ _ => ⟨rfl, eT, hcl, hsl⟩)
  dsimp only [Pt.U, Pt.locs, Pt.cells, Pt.slots] at X' l1 y1 z1 st hQ
  subst l1 y1 z1
  exact ⟨v, T', L, X', hQ, st⟩
theorem own_callSp (X : Stand p l e R s m args below meth c T locs cells slots) (hx : p.tables.exec = Jvm.exec) (hZ : Z.Warmed39 s.vm) {own : String} {index : Nat} {y : MethodName} {bytes : ByteArray} {maxL : Nat} {rm : Room} {as' : Array Value} {Q : Option Value → Heap → List Loc → Prop}
    (hy1 : y.name = "<init>") (hown : s.vm.findClass own = some m.cls) (w1 : (Jvm.Cond.methodLink own index y).before a0 Z = true) (w2 : (Jvm.Cond.instanceMethod y).before a0 Z = true) (w3 : (Jvm.Cond.initialized y.cls).before a0 Z = true) (w4 : (Jvm.Cond.code y bytes maxL none).before a0 Z = true) (hy : y.cls ≠ "java/lang/invoke/MethodHandle" ∧ y.cls ≠ "java/lang/invoke/VarHandle")
    (hM : OCon l Z y bytes maxL none [] rm as' h Q) (eT : T.heap = h) {W : Nat} (hf : rm.frames + 1 ≤ R.frames) (hl : W + (maxL + 11) + rm.locals ≤ R.locals) (hcl : cells + rm.cells ≤ R.cells) (hsl : slots + rm.slots ≤ R.slots)
    {pc : Nat} {ls : Array Slot} {stk : List Value} (hsize : ls.size = c.maxLocals) {a : Addr} {argsL rest : List Value} (hlen : ∀ sig, parseMethodDescriptor y.desc = some sig → argsL.length = sig.parameters.length) (has : (.ref a :: argsL).toArray = as') (hstack : stk = argsL.reverse ++ .ref a :: rest) (hW : (rest.map fun v => v.category).sum ≤ W)
    (hd : decode c.code pc = .ok (.invokespecial index, 3)) :
    ∃ v T' L, Stand p l e R s m args below meth c T' (locs ++ L) (cells + rm.cells) (slots + rm.slots) ∧ Q v T'.heap L ∧ ∀ target, Steps p.tables e below (T'.setTop (mkF m (pc + 3) ls (v.toList ++ rest))) target → Steps p.tables e below (T.setTop (mkF m pc ls stk)) target := by
  subst has
  obtain ⟨v, vm₁, ⟨T', L', k', n'⟩, -, X', ⟨L, hQ, l1, y1, z1⟩, st⟩ := X.specialBack hx (y := y) hy1 hown (mvT hZ w1) (mvT hZ w2) (mvT hZ w4) hy (backOf (W := W) hM hZ w4 w3 hf hl) (g := mkF m pc ls stk) rfl hsize (Steps.refl _) (a := a) (argsL := argsL) (rest := rest) hlen hstack (by simpa using hW) hd (fun _ _ => ⟨rfl, eT, hcl, hsl⟩)
  dsimp only [Pt.U, Pt.locs, Pt.cells, Pt.slots] at X' l1 y1 z1 st hQ
  subst l1 y1 z1
  exact ⟨v, T', L, X', hQ, fun t k => st.trans k⟩
theorem own_callVi (X : Stand p l e R s m args below meth c T locs cells slots) (hx : p.tables.exec = Jvm.exec) (hZ : Z.Warmed39 s.vm) {own C : String} {index : Nat} {y z : MethodName} {bytes : ByteArray} {maxL : Nat} {ret : Option FieldType} {rm : Room} {as' : Array Value} {Q : Option Value → Heap → List Loc → Prop}
    (hown : s.vm.findClass own = some m.cls) (w1 : (Jvm.Cond.methodLink own index y).before a0 Z = true) (w2 : (Jvm.Cond.declares y).before a0 Z = true) (nf : NotFace s y) (w3 : (Jvm.Cond.selects C y z).before a0 Z = true) (w4 : (Jvm.Cond.instanceMethod z).before a0 Z = true) (w5 : (Jvm.Cond.initialized z.cls).before a0 Z = true) (w6 : (Jvm.Cond.code z bytes maxL ret).before a0 Z = true) (hy : y.cls ≠ "java/lang/invoke/MethodHandle" ∧ y.cls ≠ "java/lang/invoke/VarHandle")
    (hM : OCon l Z z bytes maxL ret [] rm as' h Q) (eT : T.heap = h) {W : Nat} (hf : rm.frames + 1 ≤ R.frames) (hl : W + (maxL + 11) + rm.locals ≤ R.locals) (hcl : cells + rm.cells ≤ R.cells) (hsl : slots + rm.slots ≤ R.slots) {a : Addr} (E : Exa Z h a C)
    {pc : Nat} {ls : Array Slot} {stk : List Value} (hsize : ls.size = c.maxLocals) {argsL rest : List Value} (hlen : ∀ sig, parseMethodDescriptor y.desc = some sig → argsL.length = sig.parameters.length) (has : (.ref a :: argsL).toArray = as') (hstack : stk = argsL.reverse ++ .ref a :: rest) (hW : (rest.map fun v => v.category).sum ≤ W)
    (hd : decode c.code pc = .ok (.invokevirtual index, 3)) :
    ∃ v T' L, Stand p l e R s m args below meth c T' (locs ++ L) (cells + rm.cells) (slots + rm.slots) ∧ Q v T'.heap L ∧ ∀ target, Steps p.tables e below (T'.setTop (mkF m (pc + 3) ls (v.toList ++ rest))) target → Steps p.tables e below (T.setTop (mkF m pc ls stk)) target := by
  subst has
  obtain ⟨cq, kq, qa, qb, qc⟩ := isOf hZ eT E
  obtain ⟨v, vm₁, ⟨T', L', k', n'⟩, -, X', ⟨L, hQ, l1, y1, z1⟩, st⟩ := X.virtualBack hx (y := y) (z := z) hown (mvT hZ w1) (mvT hZ w2) nf (mvT hZ w3) (mvT hZ w4) hy (backOf (W := W) hM hZ w6 w5 hf hl) qa qc (g := mkF m pc ls stk) rfl hsize (Steps.refl _) (argsL := argsL) (rest := rest) hlen hstack (by simpa using hW) hd (fun _ _ => ⟨rfl, eT, hcl, hsl⟩)
  dsimp only [Pt.U, Pt.locs, Pt.cells, Pt.slots] at X' l1 y1 z1 st hQ
  subst l1 y1 z1
  exact ⟨v, T', L, X', hQ, fun t k => st.trans k⟩
theorem own_lremM {g : JFrame} {target : State} (X : Stand p l e R s m args below meth c T locs cells slots) (hx : p.tables.exec = Jvm.exec) (hg : g.method = m) {x y : Int64} {rest : List Value} (hd : decode c.code g.pc = .ok (.lrem, 1)) (hs : g.stack = .long y :: .long x :: rest) (hy : y ≠ 0)
    (hr : Steps p.tables e below (T.setTop { g with pc := g.pc + 1, stack := .long (x % y) :: rest }) target) : Steps p.tables e below (T.setTop g) target :=
  XT.lrem X.here hx hg hd hs hy (by rw [lrem_mod]; exact hr)
theorem own_nz {x : Int32} (q : x = 0 ∨ x = 1) : narrow .boolean (.int x) = .int x := by rcases q with rfl | rfl <;> rfl
theorem own_fz {x : Int32} (q : x = 0 ∨ x = 1) : fits .boolean (.int x) = true := by rcases q with rfl | rfl <;> rfl
theorem own_irr (x : Int32) : ¬ x < x := fun q => absurd (Int32.lt_iff_toInt_lt.mp q) (Int.lt_irrefl _)
theorem own_irrL (x : Int64) : ¬ x < x := fun q => absurd (Int64.lt_iff_toInt_lt.mp q) (Int.lt_irrefl _)
/-- a small int is one of the first n -/
theorem own_small {n : Nat} (hn : n < 2 ^ 31) (x : Int32) (h0 : ¬ x < 0) (h1 : x.toInt < n) : ∃ k : Fin n, x = Int32.ofInt k.val := by
  have h2 : 0 ≤ x.toInt := by
    rcases Int.lt_or_le x.toInt 0 with q | q
    · exact absurd (Int32.lt_iff_toInt_lt.mpr q) h0
    · exact q
  refine ⟨⟨x.toInt.toNat, by omega⟩, ?_⟩
  rw [Int.toNat_of_nonneg h2, Int32.ofInt_toInt]
end Own
section OwnSta
variable {args : Array Value} {Z : State} {a : Addr} {t : Jvm.Term}
theorem own_eqV {u : Jvm.Term} {v : Value} (hu : u.eval args Z none [] Z = some v) (hv : (match v with | .retAddr _ => false | _ => true) = true) (q : (Jvm.Cond.eq t u).value args Z none Z [] = some true) : t.eval args Z none [] Z = some v := by
  obtain ⟨x, y, ex, ey, k1, k2⟩ := cmp_v (Or.inl q)
  cases hu.symm.trans ey
  rw [ex]
  cases x <;> cases v <;> simp_all [Jvm.Cond.value, Kin, Value.isRef]
theorem own_fldI {C n d : String} {k : Int32} (ev : t.eval args Z none [] Z = some (.ref a)) (q : (Jvm.Cond.eq (Jvm.Term.field t C n d) (Jvm.Term.int k)).value args Z none Z [] = some true) : Fld Z Z.heap a C n d (.int k) :=
  Fld.start ((fld_at ev).symm.trans (own_eqV (Term.int_eval k) rfl q))
theorem own_lenI {k : Int32} {cl : Cell} {ty : FieldType} (ev : t.eval args Z none [] Z = some (.ref a)) (A : Arr Z Z.heap a cl ty) (q : (Jvm.Cond.eq (Jvm.Term.length t) (Jvm.Term.int k)).value args Z none Z [] = some true) : cl.slots.size < 2 ^ 31 ∧ cl.slots.size.toInt32 = k := by
  have h := own_eqV (Term.int_eval k) rfl q
  obtain ⟨b, cell, ht, harr, hl⟩ := Term.length_spec h
  cases ev.symm.trans ht
  have ha : Z.arrayAt? a = some cl := Arr.fin (Vm.Alike.refl _) A
  cases ha.symm.trans harr
  by_cases hs : cl.slots.size < 2 ^ 31
  · exact ⟨hs, (Value.int.inj (Option.some.inj ((len_f ev ha hs).symm.trans h)))⟩
  · exfalso
    rw [Jvm.Term.eval, ev] at h
    simp [ha] at h
    omega
theorem own_elem {j : Int32} {n : Nat} {u : Jvm.Term} {v : Value} {cl : Cell} {ty : FieldType} (ev : t.eval args Z none [] Z = some (.ref a)) (A : Arr Z Z.heap a cl ty) (hu : u.eval args Z none [] Z = some v) (hv : (match v with | .retAddr _ => false | _ => true) = true) (hj : j.toNatClampNeg = n) (q : (Jvm.Cond.eq (Jvm.Term.elem t (Jvm.Term.int j)) u).value args Z none Z [] = some true) : cl.slots[n]? = some v :=
  hj ▸ (elem_in (own_eqV hu hv q) ev (Term.int_eval j) A.1).2
end OwnSta
theorem ow0 {Z : State} {a0 : Array Value} (hw : ∀ d ∈ tables_1, d.before a0 Z = true) : (Jvm.Cond.methodLink "com/example/orderly_migration/orderlymigration/core/CommentBlockPinLaw" (7 : Nat) ({ cls := "com/example/orderly_migration/orderlymigration/core/SqlTokens$Comment", name := "block", desc := "(Z)Lcom/example/orderly_migration/orderlymigration/core/SqlTokens$Comment;" } : Jvm.MethodName)).before a0 Z = true := hw _ (List.mem_of_getElem? (i := 0) rfl)
theorem ow1 {Z : State} {a0 : Array Value} (hw : ∀ d ∈ tables_1, d.before a0 Z = true) : (Jvm.Cond.static ({ cls := "com/example/orderly_migration/orderlymigration/core/SqlTokens$Comment", name := "block", desc := "(Z)Lcom/example/orderly_migration/orderlymigration/core/SqlTokens$Comment;" } : Jvm.MethodName)).before a0 Z = true := hw _ (List.mem_of_getElem? (i := 1) rfl)
theorem ow2 {Z : State} {a0 : Array Value} (hw : ∀ d ∈ tables_1, d.before a0 Z = true) : (Jvm.Cond.initialized "com/example/orderly_migration/orderlymigration/core/SqlTokens$Comment").before a0 Z = true := hw _ (List.mem_of_getElem? (i := 2) rfl)
theorem ow3 {Z : State} {a0 : Array Value} (hw : ∀ d ∈ tables_1, d.before a0 Z = true) : (Jvm.Cond.code ({ cls := "com/example/orderly_migration/orderlymigration/core/SqlTokens$Comment", name := "block", desc := "(Z)Lcom/example/orderly_migration/orderlymigration/core/SqlTokens$Comment;" } : Jvm.MethodName) prog_58_method_2_code (1 : Nat) (Option.some (Jvm.ClassFile.FieldType.object "com/example/orderly_migration/orderlymigration/core/SqlTokens$Comment"))).before a0 Z = true := hw _ (List.mem_of_getElem? (i := 3) rfl)
theorem ow4 {Z : State} {a0 : Array Value} (hw : ∀ d ∈ tables_1, d.before a0 Z = true) : (Jvm.Cond.fieldLink "com/example/orderly_migration/orderlymigration/core/SqlTokens$Comment" (23 : Nat) "com/example/orderly_migration/orderlymigration/core/SqlTokens$Comment" "BLOCK" "Lcom/example/orderly_migration/orderlymigration/core/SqlTokens$Comment;").before a0 Z = true := hw _ (List.mem_of_getElem? (i := 4) rfl)
theorem ow5 {Z : State} {a0 : Array Value} (hw : ∀ d ∈ tables_1, d.before a0 Z = true) : (Jvm.Cond.laysStatic "com/example/orderly_migration/orderlymigration/core/SqlTokens$Comment" "BLOCK" "Lcom/example/orderly_migration/orderlymigration/core/SqlTokens$Comment;").before a0 Z = true := hw _ (List.mem_of_getElem? (i := 5) rfl)
theorem ow6 {Z : State} {a0 : Array Value} (hw : ∀ d ∈ tables_1, d.before a0 Z = true) : (Jvm.Cond.methodLink "com/example/orderly_migration/orderlymigration/core/CommentBlockPinLaw" (13 : Nat) ({ cls := "com/example/orderly_migration/orderlymigration/core/SqlTokens$Comment", name := "depth", desc := "()I" } : Jvm.MethodName)).before a0 Z = true := hw _ (List.mem_of_getElem? (i := 6) rfl)
theorem ow7 {Z : State} {a0 : Array Value} (hw : ∀ d ∈ tables_1, d.before a0 Z = true) : (Jvm.Cond.declares ({ cls := "com/example/orderly_migration/orderlymigration/core/SqlTokens$Comment", name := "depth", desc := "()I" } : Jvm.MethodName)).before a0 Z = true := hw _ (List.mem_of_getElem? (i := 7) rfl)
theorem ow8 {Z : State} {a0 : Array Value} (hw : ∀ d ∈ tables_1, d.before a0 Z = true) : (Jvm.Cond.instanceMethod ({ cls := "com/example/orderly_migration/orderlymigration/core/SqlTokens$Comment", name := "depth", desc := "()I" } : Jvm.MethodName)).before a0 Z = true := hw _ (List.mem_of_getElem? (i := 8) rfl)
theorem ow9 {Z : State} {a0 : Array Value} (hw : ∀ d ∈ tables_1, d.before a0 Z = true) : (Jvm.Cond.selects "com/example/orderly_migration/orderlymigration/core/SqlTokens$Comment" ({ cls := "com/example/orderly_migration/orderlymigration/core/SqlTokens$Comment", name := "depth", desc := "()I" } : Jvm.MethodName) ({ cls := "com/example/orderly_migration/orderlymigration/core/SqlTokens$Comment", name := "depth", desc := "()I" } : Jvm.MethodName)).before a0 Z = true := hw _ (List.mem_of_getElem? (i := 9) rfl)
theorem ow10 {Z : State} {a0 : Array Value} (hw : ∀ d ∈ tables_1, d.before a0 Z = true) : (Jvm.Cond.code ({ cls := "com/example/orderly_migration/orderlymigration/core/SqlTokens$Comment", name := "depth", desc := "()I" } : Jvm.MethodName) prog_58_method_7_code (1 : Nat) (Option.some Jvm.ClassFile.FieldType.int)).before a0 Z = true := hw _ (List.mem_of_getElem? (i := 10) rfl)
theorem ow11 {Z : State} {a0 : Array Value} (hw : ∀ d ∈ tables_1, d.before a0 Z = true) : (Jvm.Cond.fieldLink "com/example/orderly_migration/orderlymigration/core/SqlTokens$Comment" (9 : Nat) "com/example/orderly_migration/orderlymigration/core/SqlTokens$Comment" "depth" "I").before a0 Z = true := hw _ (List.mem_of_getElem? (i := 11) rfl)
theorem ow13 {Z : State} {a0 : Array Value} (hw : ∀ d ∈ tables_1, d.before a0 Z = true) : (Jvm.Cond.methodLink "com/example/orderly_migration/orderlymigration/core/CommentBlockPinLaw" (17 : Nat) ({ cls := "com/example/orderly_migration/orderlymigration/core/SqlTokens$Comment", name := "nests", desc := "()Z" } : Jvm.MethodName)).before a0 Z = true := hw _ (List.mem_of_getElem? (i := 13) rfl)
theorem ow14 {Z : State} {a0 : Array Value} (hw : ∀ d ∈ tables_1, d.before a0 Z = true) : (Jvm.Cond.declares ({ cls := "com/example/orderly_migration/orderlymigration/core/SqlTokens$Comment", name := "nests", desc := "()Z" } : Jvm.MethodName)).before a0 Z = true := hw _ (List.mem_of_getElem? (i := 14) rfl)
theorem ow15 {Z : State} {a0 : Array Value} (hw : ∀ d ∈ tables_1, d.before a0 Z = true) : (Jvm.Cond.instanceMethod ({ cls := "com/example/orderly_migration/orderlymigration/core/SqlTokens$Comment", name := "nests", desc := "()Z" } : Jvm.MethodName)).before a0 Z = true := hw _ (List.mem_of_getElem? (i := 15) rfl)
theorem ow16 {Z : State} {a0 : Array Value} (hw : ∀ d ∈ tables_1, d.before a0 Z = true) : (Jvm.Cond.selects "com/example/orderly_migration/orderlymigration/core/SqlTokens$Comment" ({ cls := "com/example/orderly_migration/orderlymigration/core/SqlTokens$Comment", name := "nests", desc := "()Z" } : Jvm.MethodName) ({ cls := "com/example/orderly_migration/orderlymigration/core/SqlTokens$Comment", name := "nests", desc := "()Z" } : Jvm.MethodName)).before a0 Z = true := hw _ (List.mem_of_getElem? (i := 16) rfl)
theorem ow17 {Z : State} {a0 : Array Value} (hw : ∀ d ∈ tables_1, d.before a0 Z = true) : (Jvm.Cond.code ({ cls := "com/example/orderly_migration/orderlymigration/core/SqlTokens$Comment", name := "nests", desc := "()Z" } : Jvm.MethodName) prog_58_method_8_code (1 : Nat) (Option.some Jvm.ClassFile.FieldType.boolean)).before a0 Z = true := hw _ (List.mem_of_getElem? (i := 17) rfl)
theorem ow18 {Z : State} {a0 : Array Value} (hw : ∀ d ∈ tables_1, d.before a0 Z = true) : (Jvm.Cond.fieldLink "com/example/orderly_migration/orderlymigration/core/SqlTokens$Comment" (15 : Nat) "com/example/orderly_migration/orderlymigration/core/SqlTokens$Comment" "nests" "Z").before a0 Z = true := hw _ (List.mem_of_getElem? (i := 18) rfl)
theorem ow20 {Z : State} {a0 : Array Value} (hw : ∀ d ∈ tables_1, d.before a0 Z = true) : (Jvm.Cond.fieldLink "com/example/orderly_migration/orderlymigration/core/SqlTokens$Comment" (19 : Nat) "com/example/orderly_migration/orderlymigration/core/SqlTokens$Comment" "NESTING_BLOCK" "Lcom/example/orderly_migration/orderlymigration/core/SqlTokens$Comment;").before a0 Z = true := hw _ (List.mem_of_getElem? (i := 20) rfl)
theorem ow21 {Z : State} {a0 : Array Value} (hw : ∀ d ∈ tables_1, d.before a0 Z = true) : (Jvm.Cond.laysStatic "com/example/orderly_migration/orderlymigration/core/SqlTokens$Comment" "NESTING_BLOCK" "Lcom/example/orderly_migration/orderlymigration/core/SqlTokens$Comment;").before a0 Z = true := hw _ (List.mem_of_getElem? (i := 21) rfl)
theorem pn0 : plainName "com/example/orderly_migration/orderlymigration/core/SqlTokens$Comment" = true := by first | (simp [plainName, overriddenIn]; done) | decide +kernel
theorem d_prog_58_method_2_0 : decode prog_58_method_2_code 0 = .ok (.iload_n 0, 1) := by decide +kernel
theorem d_prog_58_method_2_1 : decode prog_58_method_2_code 1 = .ok (.ifCond .eq 9, 3) := by decide +kernel
theorem d_prog_58_method_2_10 : decode prog_58_method_2_code 10 = .ok (.getstatic 23, 3) := by decide +kernel
theorem d_prog_58_method_2_13 : decode prog_58_method_2_code 13 = .ok (.areturn, 1) := by decide +kernel
theorem ef_rm1_0 (m : MethodId) (x0 : Int32) : entryFrame m #[(.int x0)] 1 = mkF m 0 #[.val (.int x0)] [] := by first | (simp [entryFrame, mkF, argsToLocals, Value.category]; done) | rfl
def Q_rm1_0 (Z : State) (a : Addr) (h0 : Heap) (n0 : Nat) (v : Option Value) (h : Heap) (L : List Loc) : Prop := v = some (.ref a) ∧ Fr n0 L ∧ h = h0
set_option maxRecDepth 65536 in
set_option maxHeartbeats 40000000 in
theorem rm1_0 (l : Launch) (Z : State) (a0 : Array Value) (hw : ∀ d ∈ tables_1, d.before a0 Z = true) (ws : List Jvm.Cond) (a : Addr) (h0 : Heap) (n0 : Nat) (Z0 : n0 ≤ h0.size) (S_a : Sta Z h0 "com/example/orderly_migration/orderlymigration/core/SqlTokens$Comment" "BLOCK" "Lcom/example/orderly_migration/orderlymigration/core/SqlTokens$Comment;" (.ref a)) :
    OCon l Z (⟨"com/example/orderly_migration/orderlymigration/core/SqlTokens$Comment", "block", "(Z)Lcom/example/orderly_migration/orderlymigration/core/SqlTokens$Comment;"⟩ : MethodName) prog_58_method_2_code 1 (some (.object "com/example/orderly_migration/orderlymigration/core/SqlTokens$Comment")) ws ({ frames := 0, cells := 0, slots := 0, locals := 0 } : Room) #[(.int (0 : Int32))] h0 (Q_rm1_0 Z a h0 n0) := by
  refine OCon.of (plainFor_of_name pn0) ?_
  intro p e s m below meth c s₁ Φ X0 hx hby hml hown hnm hret hlk hZ e0 hΦ
  have N0 := Fr.nil n0
  refine OGo.st (fun _ kz => castTop (ef_rm1_0 m (0 : Int32)) kz) ?_
  show OGo p.tables e below Φ (s₁.setTop (mkF m 0 #[.val (.int (0 : Int32))] []))
  refine OGo.st (fun _ kz => XS.iloadN X0.here hx rfl (hb hby d_prog_58_method_2_0) rfl kz) ?_
  show OGo p.tables e below Φ (s₁.setTop (mkF m 1 #[.val (.int (0 : Int32))] [(.int (0 : Int32))]))
  refine OGo.st (fun _ kz => XS.ifYes X0.here hx rfl (pc0 := 1) (pc' := 10) rfl (hb hby d_prog_58_method_2_1) rfl (XT.i0_eq_t (by decide)) (by decide) (by decide) kz) ?_
  show OGo p.tables e below Φ (s₁.setTop (mkF m 10 #[.val (.int (0 : Int32))] []))
  obtain ⟨T1, X1, e1, st1⟩ := getS2 X0 hx hZ hown (host := "") (Or.inl (ow4 hw)) Via.refl e0 S_a (g := (mkF m 10 #[.val (.int (0 : Int32))] [])) rfl (hb hby d_prog_58_method_2_10)
  refine OGo.st st1 ?_
  show OGo p.tables e below Φ (T1.setTop (mkF m 13 #[.val (.int (0 : Int32))] [(.ref a)]))
  refine OGo.fin X1 hlk (v := (some (.ref a))) (fun h => by rw [hret] at h; cases h) (by decide) (by decide) (fun fs hr => X1.areturnOut hx rfl hret rfl (hb hby d_prog_58_method_2_13) hr) fun U eU hF => hΦ _ _ _ ?_ hF
  rw [eU, e1]
  show Q_rm1_0 Z a h0 n0 _ _ _
  exact ⟨rfl, N0, rfl⟩

theorem d_prog_58_method_2_4 : decode prog_58_method_2_code 4 = .ok (.getstatic 19, 3) := by decide +kernel
theorem d_prog_58_method_2_7 : decode prog_58_method_2_code 7 = .ok (.goto 6, 3) := by decide +kernel
theorem ef_rm1_1 (m : MethodId) (x0 : Int32) : entryFrame m #[(.int x0)] 1 = mkF m 0 #[.val (.int x0)] [] := by first | (simp [entryFrame, mkF, argsToLocals, Value.category]; done) | rfl
def Q_rm1_1 (Z : State) (a : Addr) (h0 : Heap) (n0 : Nat) (v : Option Value) (h : Heap) (L : List Loc) : Prop := v = some (.ref a) ∧ Fr n0 L ∧ h = h0
set_option maxRecDepth 65536 in
set_option maxHeartbeats 40000000 in
theorem rm1_1 (l : Launch) (Z : State) (a0 : Array Value) (hw : ∀ d ∈ tables_1, d.before a0 Z = true) (ws : List Jvm.Cond) (a : Addr) (h0 : Heap) (n0 : Nat) (Z0 : n0 ≤ h0.size) (S_a : Sta Z h0 "com/example/orderly_migration/orderlymigration/core/SqlTokens$Comment" "NESTING_BLOCK" "Lcom/example/orderly_migration/orderlymigration/core/SqlTokens$Comment;" (.ref a)) :
    OCon l Z (⟨"com/example/orderly_migration/orderlymigration/core/SqlTokens$Comment", "block", "(Z)Lcom/example/orderly_migration/orderlymigration/core/SqlTokens$Comment;"⟩ : MethodName) prog_58_method_2_code 1 (some (.object "com/example/orderly_migration/orderlymigration/core/SqlTokens$Comment")) ws ({ frames := 0, cells := 0, slots := 0, locals := 0 } : Room) #[(.int (1 : Int32))] h0 (Q_rm1_1 Z a h0 n0) := by
  refine OCon.of (plainFor_of_name pn0) ?_
  intro p e s m below meth c s₁ Φ X0 hx hby hml hown hnm hret hlk hZ e0 hΦ
  have N0 := Fr.nil n0
  refine OGo.st (fun _ kz => castTop (ef_rm1_1 m (1 : Int32)) kz) ?_
  show OGo p.tables e below Φ (s₁.setTop (mkF m 0 #[.val (.int (1 : Int32))] []))
  refine OGo.st (fun _ kz => XS.iloadN X0.here hx rfl (hb hby d_prog_58_method_2_0) rfl kz) ?_
  show OGo p.tables e below Φ (s₁.setTop (mkF m 1 #[.val (.int (1 : Int32))] [(.int (1 : Int32))]))
  refine OGo.st (fun _ kz => XS.ifNo X0.here hx rfl (hb hby d_prog_58_method_2_1) rfl (XT.i0_eq_f (by decide)) kz) ?_
  show OGo p.tables e below Φ (s₁.setTop (mkF m 4 #[.val (.int (1 : Int32))] []))
  obtain ⟨T1, X1, e1, st1⟩ := getS2 X0 hx hZ hown (host := "") (Or.inl (ow20 hw)) Via.refl e0 S_a (g := (mkF m 4 #[.val (.int (1 : Int32))] [])) rfl (hb hby d_prog_58_method_2_4)
  refine OGo.st st1 ?_
  show OGo p.tables e below Φ (T1.setTop (mkF m 7 #[.val (.int (1 : Int32))] [(.ref a)]))
  refine OGo.st (fun _ kz => XS.goto X1.here hx rfl (pc0 := 7) (pc' := 13) rfl (hb hby d_prog_58_method_2_7) (by decide) (by decide) kz) ?_
  show OGo p.tables e below Φ (T1.setTop (mkF m 13 #[.val (.int (1 : Int32))] [(.ref a)]))
  refine OGo.fin X1 hlk (v := (some (.ref a))) (fun h => by rw [hret] at h; cases h) (by decide) (by decide) (fun fs hr => X1.areturnOut hx rfl hret rfl (hb hby d_prog_58_method_2_13) hr) fun U eU hF => hΦ _ _ _ ?_ hF
  rw [eU, e1]
  show Q_rm1_1 Z a h0 n0 _ _ _
  exact ⟨rfl, N0, rfl⟩

theorem d_prog_58_method_7_0 : decode prog_58_method_7_code 0 = .ok (.aload_n 0, 1) := by decide +kernel
theorem d_prog_58_method_7_1 : decode prog_58_method_7_code 1 = .ok (.getfield 9, 3) := by decide +kernel
theorem d_prog_58_method_7_4 : decode prog_58_method_7_code 4 = .ok (.ireturn, 1) := by decide +kernel
theorem ef_rm2 (m : MethodId) (x0 : Addr) : entryFrame m #[(.ref x0)] 1 = mkF m 0 #[.val (.ref x0)] [] := by first | (simp [entryFrame, mkF, argsToLocals, Value.category]; done) | rfl
def Q_rm2 (Z : State) (a : Addr) (q : Int32) (h0 : Heap) (n0 : Nat) (v : Option Value) (h : Heap) (L : List Loc) : Prop := v = some (.int q) ∧ Fr n0 L ∧ h = h0
set_option maxRecDepth 65536 in
set_option maxHeartbeats 40000000 in
theorem rm2 (l : Launch) (Z : State) (a0 : Array Value) (hw : ∀ d ∈ tables_1, d.before a0 Z = true) (ws : List Jvm.Cond) (a : Addr) (q : Int32) (h0 : Heap) (n0 : Nat) (Z0 : n0 ≤ h0.size) (F_a : Fld Z h0 a "com/example/orderly_migration/orderlymigration/core/SqlTokens$Comment" "depth" "I" (.int q)) :
    OCon l Z (⟨"com/example/orderly_migration/orderlymigration/core/SqlTokens$Comment", "depth", "()I"⟩ : MethodName) prog_58_method_7_code 1 (some .int) ws ({ frames := 0, cells := 0, slots := 0, locals := 0 } : Room) #[(.ref a)] h0 (Q_rm2 Z a q h0 n0) := by
  refine OCon.of (plainFor_of_name pn0) ?_
  intro p e s m below meth c s₁ Φ X0 hx hby hml hown hnm hret hlk hZ e0 hΦ
  have N0 := Fr.nil n0
  refine OGo.st (fun _ kz => castTop (ef_rm2 m a) kz) ?_
  show OGo p.tables e below Φ (s₁.setTop (mkF m 0 #[.val (.ref a)] []))
  refine OGo.st (fun _ kz => XS.aloadN X0.here hx rfl (hb hby d_prog_58_method_7_0) rfl rfl kz) ?_
  show OGo p.tables e below Φ (s₁.setTop (mkF m 1 #[.val (.ref a)] [(.ref a)]))
  obtain ⟨T1, X1, e1, st1⟩ := getF X0 hx hZ hown (host := "") (Or.inl (ow11 hw)) Via.refl e0 F_a (g := (mkF m 1 #[.val (.ref a)] [(.ref a)])) rfl rfl (hb hby d_prog_58_method_7_1)
  refine OGo.st st1 ?_
  show OGo p.tables e below Φ (T1.setTop (mkF m 4 #[.val (.ref a)] [(.int q)]))
  refine OGo.fin X1 hlk (v := (some (.int q))) (fun h => by rw [hret] at h; cases h) (by decide) (by decide) (fun fs hr => X1.ireturnOut hx hret rfl (by simp) (hb hby d_prog_58_method_7_4) hr) fun U eU hF => hΦ _ _ _ ?_ hF
  rw [eU, e1]
  show Q_rm2 Z a q h0 n0 _ _ _
  exact ⟨rfl, N0, rfl⟩

theorem d_prog_58_method_8_0 : decode prog_58_method_8_code 0 = .ok (.aload_n 0, 1) := by decide +kernel
theorem d_prog_58_method_8_1 : decode prog_58_method_8_code 1 = .ok (.getfield 15, 3) := by decide +kernel
theorem d_prog_58_method_8_4 : decode prog_58_method_8_code 4 = .ok (.ireturn, 1) := by decide +kernel
theorem ef_rm3 (m : MethodId) (x0 : Addr) : entryFrame m #[(.ref x0)] 1 = mkF m 0 #[.val (.ref x0)] [] := by first | (simp [entryFrame, mkF, argsToLocals, Value.category]; done) | rfl
def Q_rm3 (Z : State) (a : Addr) (q : Int32) (h0 : Heap) (n0 : Nat) (v : Option Value) (h : Heap) (L : List Loc) : Prop := v = some (.int q) ∧ Fr n0 L ∧ h = h0
set_option maxRecDepth 65536 in
set_option maxHeartbeats 40000000 in
theorem rm3 (l : Launch) (Z : State) (a0 : Array Value) (hw : ∀ d ∈ tables_1, d.before a0 Z = true) (ws : List Jvm.Cond) (a : Addr) (q : Int32) (h0 : Heap) (n0 : Nat) (Z0 : n0 ≤ h0.size) (F_a : Fld Z h0 a "com/example/orderly_migration/orderlymigration/core/SqlTokens$Comment" "nests" "Z" (.int q)) (hq : q = 0 ∨ q = 1) :
    OCon l Z (⟨"com/example/orderly_migration/orderlymigration/core/SqlTokens$Comment", "nests", "()Z"⟩ : MethodName) prog_58_method_8_code 1 (some .boolean) ws ({ frames := 0, cells := 0, slots := 0, locals := 0 } : Room) #[(.ref a)] h0 (Q_rm3 Z a q h0 n0) := by
  refine OCon.of (plainFor_of_name pn0) ?_
  intro p e s m below meth c s₁ Φ X0 hx hby hml hown hnm hret hlk hZ e0 hΦ
  have N0 := Fr.nil n0
  refine OGo.st (fun _ kz => castTop (ef_rm3 m a) kz) ?_
  show OGo p.tables e below Φ (s₁.setTop (mkF m 0 #[.val (.ref a)] []))
  refine OGo.st (fun _ kz => XS.aloadN X0.here hx rfl (hb hby d_prog_58_method_8_0) rfl rfl kz) ?_
  show OGo p.tables e below Φ (s₁.setTop (mkF m 1 #[.val (.ref a)] [(.ref a)]))
  obtain ⟨T1, X1, e1, st1⟩ := getF X0 hx hZ hown (host := "") (Or.inl (ow18 hw)) Via.refl e0 F_a (g := (mkF m 1 #[.val (.ref a)] [(.ref a)])) rfl rfl (hb hby d_prog_58_method_8_1)
  refine OGo.st st1 ?_
  show OGo p.tables e below Φ (T1.setTop (mkF m 4 #[.val (.ref a)] [(.int q)]))
  refine OGo.fin X1 hlk (v := (some (.int q))) (fun h => by rw [hret] at h; cases h) (by decide) (by decide) (fun fs hr => X1.ireturnOut hx hret (own_nz hq) (by simp) (hb hby d_prog_58_method_8_4) hr) fun U eU hF => hΦ _ _ _ ?_ hF
  rw [eU, e1]
  show Q_rm3 Z a q h0 n0 _ _ _
  exact ⟨rfl, N0, rfl⟩

theorem pn1 : plainName "com/example/orderly_migration/orderlymigration/core/CommentBlockPinLaw" = true := by first | (simp [plainName, overriddenIn]; done) | decide +kernel
theorem pd0 : parseMethodDescriptor "(Z)Lcom/example/orderly_migration/orderlymigration/core/SqlTokens$Comment;" = some ⟨[.boolean], some (.object "com/example/orderly_migration/orderlymigration/core/SqlTokens$Comment")⟩ := by decide +kernel
theorem pd1 : parseMethodDescriptor "()I" = some ⟨[], some .int⟩ := by decide +kernel
theorem pd2 : parseMethodDescriptor "()Z" = some ⟨[], some .boolean⟩ := by decide +kernel
theorem ef_rm0 (m : MethodId) (x0 : Int32) : entryFrame m #[(.int x0)] maxLocals = mkF m 0 #[.val (.int x0), .unset, .unset] [] := by first | (simp [entryFrame, mkF, argsToLocals, Value.category, maxLocals]; done) | rfl
def Q_rm0 (Z : State) (k : Int32) (aB : Addr) (aN : Addr) (h0 : Heap) (n0 : Nat) (v : Option Value) (h : Heap) (L : List Loc) : Prop := v = some (.int (1 : Int32)) ∧ Fr n0 L
set_option maxRecDepth 65536 in
set_option maxHeartbeats 40000000 in
theorem rm0 (l : Launch) (Z : State) (a0 : Array Value) (hw : ∀ d ∈ tables_1, d.before a0 Z = true) (ws : List Jvm.Cond) (k : Int32) (aB : Addr) (aN : Addr) (h0 : Heap) (n0 : Nat) (Z0 : n0 ≤ h0.size) (S_B : Sta Z h0 "com/example/orderly_migration/orderlymigration/core/SqlTokens$Comment" "BLOCK" "Lcom/example/orderly_migration/orderlymigration/core/SqlTokens$Comment;" (.ref aB)) (E_B : Exa Z h0 aB "com/example/orderly_migration/orderlymigration/core/SqlTokens$Comment") (D_B : Fld Z h0 aB "com/example/orderly_migration/orderlymigration/core/SqlTokens$Comment" "depth" "I" (.int (1 : Int32))) (G_B : Fld Z h0 aB "com/example/orderly_migration/orderlymigration/core/SqlTokens$Comment" "nests" "Z" (.int (0 : Int32))) (S_N : Sta Z h0 "com/example/orderly_migration/orderlymigration/core/SqlTokens$Comment" "NESTING_BLOCK" "Lcom/example/orderly_migration/orderlymigration/core/SqlTokens$Comment;" (.ref aN)) (E_N : Exa Z h0 aN "com/example/orderly_migration/orderlymigration/core/SqlTokens$Comment") (D_N : Fld Z h0 aN "com/example/orderly_migration/orderlymigration/core/SqlTokens$Comment" "depth" "I" (.int (1 : Int32))) (G_N : Fld Z h0 aN "com/example/orderly_migration/orderlymigration/core/SqlTokens$Comment" "nests" "Z" (.int (1 : Int32))) :
    OCon l Z x code maxLocals ret ws room_1 #[(.int k)] h0 (Q_rm0 Z k aB aN h0 n0) := by
  refine OCon.of (plainFor_of_name pn1) ?_
  intro p e s m below meth c s₁ Φ X0 hx hby hml hown hnm hret hlk hZ e0 hΦ
  have N0 := Fr.nil n0
  refine OGo.st (fun _ kz => castTop (ef_rm0 m k) kz) ?_
  show OGo p.tables e below Φ (s₁.setTop (mkF m 0 #[.val (.int k), .unset, .unset] []))
  refine OGo.st (fun _ kz => XS.iloadN X0.here hx rfl (hb hby at_0) rfl kz) ?_
  show OGo p.tables e below Φ (s₁.setTop (mkF m 1 #[.val (.int k), .unset, .unset] [(.int k)]))
  refine OGo.st (fun _ kz => XS.iconst X0.here hx rfl (hb hby at_1) kz) ?_
  show OGo p.tables e below Φ (s₁.setTop (mkF m 2 #[.val (.int k), .unset, .unset] [(.int (1 : Int32)), (.int k)]))
  refine OGo.st (fun _ kz => XS.iand X0.here hx rfl (hb hby at_2) rfl kz) ?_
  show OGo p.tables e below Φ (s₁.setTop (mkF m 3 #[.val (.int k), .unset, .unset] [(.int (k &&& (1 : Int32)))]))
  by_cases hc1 : (k &&& (1 : Int32)) = 0
  · refine OGo.st (fun _ kz => XS.ifYes X0.here hx rfl (pc0 := 3) (pc' := 10) rfl (hb hby at_3) rfl (XT.i0_eq_t hc1) (by decide) (by decide) kz) ?_
    show OGo p.tables e below Φ (s₁.setTop (mkF m 10 #[.val (.int k), .unset, .unset] []))
    refine OGo.st (fun _ kz => XS.iconst X0.here hx rfl (hb hby at_10) kz) ?_
    show OGo p.tables e below Φ (s₁.setTop (mkF m 11 #[.val (.int k), .unset, .unset] [(.int (0 : Int32))]))
    refine OGo.st (fun _ kz => XS.istoreN X0.here hx rfl (hb hby at_11) rfl (l' := #[.val (.int k), .val (.int (0 : Int32)), .unset]) rfl kz) ?_
    show OGo p.tables e below Φ (s₁.setTop (mkF m 12 #[.val (.int k), .val (.int (0 : Int32)), .unset] []))
    refine OGo.st (fun _ kz => XS.iloadN X0.here hx rfl (hb hby at_12) rfl kz) ?_
    show OGo p.tables e below Φ (s₁.setTop (mkF m 13 #[.val (.int k), .val (.int (0 : Int32)), .unset] [(.int (0 : Int32))]))
    obtain ⟨_, T2, L2, X2, hQ2, st2⟩ := own_callSt X0 hx hZ hown (ow0 hw) (ow1 hw) (ow2 hw) (ow3 hw) (by decide) (rm1_0 l Z a0 hw [] aB h0 n0 Z0 S_B) e0 (W := 0) (by decide) (by decide) (by decide) (by decide) (pc := 13) (ls := #[.val (.int k), .val (.int (0 : Int32)), .unset]) (stk := [(.int (0 : Int32))]) (by rw [hml]; rfl) (argsL := [(.int (0 : Int32))]) (rest := []) (lenOf pd0 rfl) rfl rfl (Nat.le_of_eq rfl) (hb hby at_13)
    obtain ⟨rfl, Nq2, e2⟩ := hQ2
    have N2 := Fr.app N0 Nq2
    refine OGo.st st2 ?_
    show OGo p.tables e below Φ (T2.setTop (mkF m 16 #[.val (.int k), .val (.int (0 : Int32)), .unset] [(.ref aB)]))
    refine OGo.st (fun _ kz => XS.astoreN X2.here hx rfl (hb hby at_16) rfl rfl (l' := #[.val (.int k), .val (.int (0 : Int32)), .val (.ref aB)]) rfl kz) ?_
    show OGo p.tables e below Φ (T2.setTop (mkF m 17 #[.val (.int k), .val (.int (0 : Int32)), .val (.ref aB)] []))
    refine OGo.st (fun _ kz => XS.aloadN X2.here hx rfl (hb hby at_17) rfl rfl kz) ?_
    show OGo p.tables e below Φ (T2.setTop (mkF m 18 #[.val (.int k), .val (.int (0 : Int32)), .val (.ref aB)] [(.ref aB)]))
    refine OGo.st (fun _ kz => XT.ifnonnullYes X2.here hx rfl (pc0 := 18) (pc' := 23) rfl (hb hby at_18) rfl (by decide) (by decide) kz) ?_
    show OGo p.tables e below Φ (T2.setTop (mkF m 23 #[.val (.int k), .val (.int (0 : Int32)), .val (.ref aB)] []))
    refine OGo.st (fun _ kz => XS.aloadN X2.here hx rfl (hb hby at_23) rfl rfl kz) ?_
    show OGo p.tables e below Φ (T2.setTop (mkF m 24 #[.val (.int k), .val (.int (0 : Int32)), .val (.ref aB)] [(.ref aB)]))
    obtain ⟨_, T3, L3, X3, hQ3, st3⟩ := own_callVi X2 hx hZ hown (ow6 hw) (ow7 hw) (notFace_of_selects (args := #[]) (mvT hZ (ow9 hw))) (ow9 hw) (ow8 hw) (ow2 hw) (ow10 hw) (by decide) (rm2 l Z a0 hw [] aB (1 : Int32) h0 n0 Z0 D_B) e2 (W := 0) (by decide) (by decide) (by decide) (by decide) E_B (pc := 24) (ls := #[.val (.int k), .val (.int (0 : Int32)), .val (.ref aB)]) (stk := [(.ref aB)]) (by rw [hml]; rfl) (argsL := []) (rest := []) (lenOf pd1 rfl) rfl rfl (Nat.le_of_eq rfl) (hb hby at_24)
    obtain ⟨rfl, Nq3, e3⟩ := hQ3
    have N3 := Fr.app N2 Nq3
    refine OGo.st st3 ?_
    show OGo p.tables e below Φ (T3.setTop (mkF m 27 #[.val (.int k), .val (.int (0 : Int32)), .val (.ref aB)] [(.int (1 : Int32))]))
    refine OGo.st (fun _ kz => XS.iconst X3.here hx rfl (hb hby at_27) kz) ?_
    show OGo p.tables e below Φ (T3.setTop (mkF m 28 #[.val (.int k), .val (.int (0 : Int32)), .val (.ref aB)] [(.int (1 : Int32)), (.int (1 : Int32))]))
    refine OGo.st (fun _ kz => XS.icmpNo X3.here hx rfl (hb hby at_28) rfl (XT.ii_ne_f (by decide)) kz) ?_
    show OGo p.tables e below Φ (T3.setTop (mkF m 31 #[.val (.int k), .val (.int (0 : Int32)), .val (.ref aB)] []))
    refine OGo.st (fun _ kz => XS.aloadN X3.here hx rfl (hb hby at_31) rfl rfl kz) ?_
    show OGo p.tables e below Φ (T3.setTop (mkF m 32 #[.val (.int k), .val (.int (0 : Int32)), .val (.ref aB)] [(.ref aB)]))
    obtain ⟨_, T4, L4, X4, hQ4, st4⟩ := own_callVi X3 hx hZ hown (ow13 hw) (ow14 hw) (notFace_of_selects (args := #[]) (mvT hZ (ow16 hw))) (ow16 hw) (ow15 hw) (ow2 hw) (ow17 hw) (by decide) (rm3 l Z a0 hw [] aB (0 : Int32) h0 n0 Z0 G_B (by decide)) e3 (W := 0) (by decide) (by decide) (by decide) (by decide) E_B (pc := 32) (ls := #[.val (.int k), .val (.int (0 : Int32)), .val (.ref aB)]) (stk := [(.ref aB)]) (by rw [hml]; rfl) (argsL := []) (rest := []) (lenOf pd2 rfl) rfl rfl (Nat.le_of_eq rfl) (hb hby at_32)
    obtain ⟨rfl, Nq4, e4⟩ := hQ4
    have N4 := Fr.app N3 Nq4
    refine OGo.st st4 ?_
    show OGo p.tables e below Φ (T4.setTop (mkF m 35 #[.val (.int k), .val (.int (0 : Int32)), .val (.ref aB)] [(.int (0 : Int32))]))
    refine OGo.st (fun _ kz => XS.iloadN X4.here hx rfl (hb hby at_35) rfl kz) ?_
    show OGo p.tables e below Φ (T4.setTop (mkF m 36 #[.val (.int k), .val (.int (0 : Int32)), .val (.ref aB)] [(.int (0 : Int32)), (.int (0 : Int32))]))
    refine OGo.st (fun _ kz => XS.icmpNo X4.here hx rfl (hb hby at_36) rfl (XT.ii_ne_f (by decide)) kz) ?_
    show OGo p.tables e below Φ (T4.setTop (mkF m 39 #[.val (.int k), .val (.int (0 : Int32)), .val (.ref aB)] []))
    refine OGo.st (fun _ kz => XS.iconst X4.here hx rfl (hb hby at_39) kz) ?_
    show OGo p.tables e below Φ (T4.setTop (mkF m 40 #[.val (.int k), .val (.int (0 : Int32)), .val (.ref aB)] [(.int (1 : Int32))]))
    refine OGo.st (fun _ kz => XS.goto X4.here hx rfl (pc0 := 40) (pc' := 44) rfl (hb hby at_40) (by decide) (by decide) kz) ?_
    show OGo p.tables e below Φ (T4.setTop (mkF m 44 #[.val (.int k), .val (.int (0 : Int32)), .val (.ref aB)] [(.int (1 : Int32))]))
    refine OGo.fin X4 hlk (v := (some (.int (1 : Int32)))) (fun h => by rw [hret] at h; cases h) (by decide) (by decide) (fun fs hr => X4.ireturnOut hx hret rfl (by simp) (hb hby at_44) hr) fun U eU hF => hΦ _ _ _ ?_ hF
    rw [eU, e4]
    show Q_rm0 Z k aB aN h0 n0 _ _ _
    exact ⟨rfl, N4⟩
  · refine OGo.st (fun _ kz => XS.ifNo X0.here hx rfl (hb hby at_3) rfl (XT.i0_eq_f hc1) kz) ?_
    show OGo p.tables e below Φ (s₁.setTop (mkF m 6 #[.val (.int k), .unset, .unset] []))
    refine OGo.st (fun _ kz => XS.iconst X0.here hx rfl (hb hby at_6) kz) ?_
    show OGo p.tables e below Φ (s₁.setTop (mkF m 7 #[.val (.int k), .unset, .unset] [(.int (1 : Int32))]))
    refine OGo.st (fun _ kz => XS.goto X0.here hx rfl (pc0 := 7) (pc' := 11) rfl (hb hby at_7) (by decide) (by decide) kz) ?_
    show OGo p.tables e below Φ (s₁.setTop (mkF m 11 #[.val (.int k), .unset, .unset] [(.int (1 : Int32))]))
    refine OGo.st (fun _ kz => XS.istoreN X0.here hx rfl (hb hby at_11) rfl (l' := #[.val (.int k), .val (.int (1 : Int32)), .unset]) rfl kz) ?_
    show OGo p.tables e below Φ (s₁.setTop (mkF m 12 #[.val (.int k), .val (.int (1 : Int32)), .unset] []))
    refine OGo.st (fun _ kz => XS.iloadN X0.here hx rfl (hb hby at_12) rfl kz) ?_
    show OGo p.tables e below Φ (s₁.setTop (mkF m 13 #[.val (.int k), .val (.int (1 : Int32)), .unset] [(.int (1 : Int32))]))
    obtain ⟨_, T5, L5, X5, hQ5, st5⟩ := own_callSt X0 hx hZ hown (ow0 hw) (ow1 hw) (ow2 hw) (ow3 hw) (by decide) (rm1_1 l Z a0 hw [] aN h0 n0 Z0 S_N) e0 (W := 0) (by decide) (by decide) (by decide) (by decide) (pc := 13) (ls := #[.val (.int k), .val (.int (1 : Int32)), .unset]) (stk := [(.int (1 : Int32))]) (by rw [hml]; rfl) (argsL := [(.int (1 : Int32))]) (rest := []) (lenOf pd0 rfl) rfl rfl (Nat.le_of_eq rfl) (hb hby at_13)
    obtain ⟨rfl, Nq5, e5⟩ := hQ5
    have N5 := Fr.app N0 Nq5
    refine OGo.st st5 ?_
    show OGo p.tables e below Φ (T5.setTop (mkF m 16 #[.val (.int k), .val (.int (1 : Int32)), .unset] [(.ref aN)]))
    refine OGo.st (fun _ kz => XS.astoreN X5.here hx rfl (hb hby at_16) rfl rfl (l' := #[.val (.int k), .val (.int (1 : Int32)), .val (.ref aN)]) rfl kz) ?_
    show OGo p.tables e below Φ (T5.setTop (mkF m 17 #[.val (.int k), .val (.int (1 : Int32)), .val (.ref aN)] []))
    refine OGo.st (fun _ kz => XS.aloadN X5.here hx rfl (hb hby at_17) rfl rfl kz) ?_
    show OGo p.tables e below Φ (T5.setTop (mkF m 18 #[.val (.int k), .val (.int (1 : Int32)), .val (.ref aN)] [(.ref aN)]))
    refine OGo.st (fun _ kz => XT.ifnonnullYes X5.here hx rfl (pc0 := 18) (pc' := 23) rfl (hb hby at_18) rfl (by decide) (by decide) kz) ?_
    show OGo p.tables e below Φ (T5.setTop (mkF m 23 #[.val (.int k), .val (.int (1 : Int32)), .val (.ref aN)] []))
    refine OGo.st (fun _ kz => XS.aloadN X5.here hx rfl (hb hby at_23) rfl rfl kz) ?_
    show OGo p.tables e below Φ (T5.setTop (mkF m 24 #[.val (.int k), .val (.int (1 : Int32)), .val (.ref aN)] [(.ref aN)]))
    obtain ⟨_, T6, L6, X6, hQ6, st6⟩ := own_callVi X5 hx hZ hown (ow6 hw) (ow7 hw) (notFace_of_selects (args := #[]) (mvT hZ (ow9 hw))) (ow9 hw) (ow8 hw) (ow2 hw) (ow10 hw) (by decide) (rm2 l Z a0 hw [] aN (1 : Int32) h0 n0 Z0 D_N) e5 (W := 0) (by decide) (by decide) (by decide) (by decide) E_N (pc := 24) (ls := #[.val (.int k), .val (.int (1 : Int32)), .val (.ref aN)]) (stk := [(.ref aN)]) (by rw [hml]; rfl) (argsL := []) (rest := []) (lenOf pd1 rfl) rfl rfl (Nat.le_of_eq rfl) (hb hby at_24)
    obtain ⟨rfl, Nq6, e6⟩ := hQ6
    have N6 := Fr.app N5 Nq6
    refine OGo.st st6 ?_
    show OGo p.tables e below Φ (T6.setTop (mkF m 27 #[.val (.int k), .val (.int (1 : Int32)), .val (.ref aN)] [(.int (1 : Int32))]))
    refine OGo.st (fun _ kz => XS.iconst X6.here hx rfl (hb hby at_27) kz) ?_
    show OGo p.tables e below Φ (T6.setTop (mkF m 28 #[.val (.int k), .val (.int (1 : Int32)), .val (.ref aN)] [(.int (1 : Int32)), (.int (1 : Int32))]))
    refine OGo.st (fun _ kz => XS.icmpNo X6.here hx rfl (hb hby at_28) rfl (XT.ii_ne_f (by decide)) kz) ?_
    show OGo p.tables e below Φ (T6.setTop (mkF m 31 #[.val (.int k), .val (.int (1 : Int32)), .val (.ref aN)] []))
    refine OGo.st (fun _ kz => XS.aloadN X6.here hx rfl (hb hby at_31) rfl rfl kz) ?_
    show OGo p.tables e below Φ (T6.setTop (mkF m 32 #[.val (.int k), .val (.int (1 : Int32)), .val (.ref aN)] [(.ref aN)]))
    obtain ⟨_, T7, L7, X7, hQ7, st7⟩ := own_callVi X6 hx hZ hown (ow13 hw) (ow14 hw) (notFace_of_selects (args := #[]) (mvT hZ (ow16 hw))) (ow16 hw) (ow15 hw) (ow2 hw) (ow17 hw) (by decide) (rm3 l Z a0 hw [] aN (1 : Int32) h0 n0 Z0 G_N (by decide)) e6 (W := 0) (by decide) (by decide) (by decide) (by decide) E_N (pc := 32) (ls := #[.val (.int k), .val (.int (1 : Int32)), .val (.ref aN)]) (stk := [(.ref aN)]) (by rw [hml]; rfl) (argsL := []) (rest := []) (lenOf pd2 rfl) rfl rfl (Nat.le_of_eq rfl) (hb hby at_32)
    obtain ⟨rfl, Nq7, e7⟩ := hQ7
    have N7 := Fr.app N6 Nq7
    refine OGo.st st7 ?_
    show OGo p.tables e below Φ (T7.setTop (mkF m 35 #[.val (.int k), .val (.int (1 : Int32)), .val (.ref aN)] [(.int (1 : Int32))]))
    refine OGo.st (fun _ kz => XS.iloadN X7.here hx rfl (hb hby at_35) rfl kz) ?_
    show OGo p.tables e below Φ (T7.setTop (mkF m 36 #[.val (.int k), .val (.int (1 : Int32)), .val (.ref aN)] [(.int (1 : Int32)), (.int (1 : Int32))]))
    refine OGo.st (fun _ kz => XS.icmpNo X7.here hx rfl (hb hby at_36) rfl (XT.ii_ne_f (by decide)) kz) ?_
    show OGo p.tables e below Φ (T7.setTop (mkF m 39 #[.val (.int k), .val (.int (1 : Int32)), .val (.ref aN)] []))
    refine OGo.st (fun _ kz => XS.iconst X7.here hx rfl (hb hby at_39) kz) ?_
    show OGo p.tables e below Φ (T7.setTop (mkF m 40 #[.val (.int k), .val (.int (1 : Int32)), .val (.ref aN)] [(.int (1 : Int32))]))
    refine OGo.st (fun _ kz => XS.goto X7.here hx rfl (pc0 := 40) (pc' := 44) rfl (hb hby at_40) (by decide) (by decide) kz) ?_
    show OGo p.tables e below Φ (T7.setTop (mkF m 44 #[.val (.int k), .val (.int (1 : Int32)), .val (.ref aN)] [(.int (1 : Int32))]))
    refine OGo.fin X7 hlk (v := (some (.int (1 : Int32)))) (fun h => by rw [hret] at h; cases h) (by decide) (by decide) (fun fs hr => X7.ireturnOut hx hret rfl (by simp) (hb hby at_44) hr) fun U eU hF => hΦ _ _ _ ?_ hF
    rw [eU, e7]
    show Q_rm0 Z k aB aN h0 n0 _ _ _
    exact ⟨rfl, N7⟩

set_option maxRecDepth 65536 in
set_option maxHeartbeats 40000000 in
theorem comes_1 {Post : Tables → Env → Array Value → State → Outcome → State → Prop} (hpost : ∀ tb e args s v u, (limb_1_1.after args s (.returned v) u = true ∧ limb_1_2.after args s (.returned v) u = true ∧ True) → FrameEnd s (.returned v) u (Jvm.fieldLocs frame_1_writes args s ++ Jvm.arrayLocs frame_1_arrays args s ++ Jvm.staticLocs frame_1_statics s) 0 0 → Post tb e args s (.returned v) u) :
    ArmFor flags0 classFile x code maxLocals ret World_1 tables_1 room_1 Calls_1 rest_1 Pre_1 Post := by
  intro l hfl _ _ p e ha hc hk s m args below hf hA hF happ hP
  obtain ⟨hcalls, hrest, hpre⟩ := hP
  obtain ⟨-, -, -, hnamed, -, -, -, hat⟩ := (Spec.applies_iff hf).mp happ
  obtain ⟨hg, hn⟩ := and_e (Cond.before_iff.mp (show (Jvm.Cond.and given_1 narrow_1).before args s = true from hpre))
  obtain ⟨g0, r0⟩ := and_e hg
  have k0 := r0
  obtain ⟨w0, rfl⟩ : ∃ w0 : Value, args = #[w0] := by
    have hs : args.size = 1 := by simpa [Cond.value, given_1] using g0
    obtain ⟨L⟩ := args
    match L, hs with
    | [w0], _ => exact ⟨w0, rfl⟩
  have hw := fun d (hd : d ∈ tables_1) => atoms_spec (ws := Jvm.Cond.code x code maxLocals ret :: tables_1) hat d (List.mem_cons_of_mem _ hd)
  have hfit : Fit s := fun {y c} hc i hi => by
    obtain ⟨ha, rfl⟩ := Array.getElem?_eq_some_iff.mp hc
    have q := List.all_eq_true.mp ((Array.all_eq_true_iff_forall_mem.mp hF) _ (Array.getElem_mem ha)) i (List.mem_range.mpr hi)
    simpa [Array.getElem?_eq_getElem hi] using q
  obtain ⟨i0, ei0⟩ := is_v k0
  obtain rfl : w0 = (.int i0) := Option.some.inj ei0
  obtain ⟨m0, hn0⟩ := and_e hn
  obtain ⟨m1, hn1⟩ := and_e hn0
  obtain ⟨m2, hn2⟩ := and_e hn1
  obtain ⟨m3, hn3⟩ := and_e hn2
  obtain ⟨m4, hn4⟩ := and_e hn3
  have m5 := hn4
  obtain ⟨s_SqlTokensComment_BLOCK, v_SqlTokensComment_BLOCK⟩ := exa_v m0
  have E_SqlTokensComment_BLOCK := Exa.start v_SqlTokensComment_BLOCK m0
  have S_SqlTokensComment_BLOCK := Sta.start v_SqlTokensComment_BLOCK (Or.inr ⟨(ow2 hw), (ow5 hw)⟩)
  obtain ⟨s_SqlTokensComment_NESTING_BLOCK, v_SqlTokensComment_NESTING_BLOCK⟩ := exa_v m3
  have E_SqlTokensComment_NESTING_BLOCK := Exa.start v_SqlTokensComment_NESTING_BLOCK m3
  have S_SqlTokensComment_NESTING_BLOCK := Sta.start v_SqlTokensComment_NESTING_BLOCK (Or.inr ⟨(ow2 hw), (ow21 hw)⟩)
  have F_SqlTokensComment_BLOCK_depth := own_fldI v_SqlTokensComment_BLOCK m1
  have F_SqlTokensComment_BLOCK_nests := own_fldI v_SqlTokensComment_BLOCK m2
  have F_SqlTokensComment_NESTING_BLOCK_depth := own_fldI v_SqlTokensComment_NESTING_BLOCK m4
  have F_SqlTokensComment_NESTING_BLOCK_nests := own_fldI v_SqlTokensComment_NESTING_BLOCK m5
  obtain ⟨n, o, h1, h2, h3, _, L, rfl, ⟨rfl, N⟩, hq⟩ := rm0 l s _ hw tables_1 i0 s_SqlTokensComment_BLOCK s_SqlTokensComment_NESTING_BLOCK s.heap s.heap.size (Nat.le_refl _) S_SqlTokensComment_BLOCK E_SqlTokensComment_BLOCK F_SqlTokensComment_BLOCK_depth F_SqlTokensComment_BLOCK_nests S_SqlTokensComment_NESTING_BLOCK E_SqlTokensComment_NESTING_BLOCK F_SqlTokensComment_NESTING_BLOCK_depth F_SqlTokensComment_NESTING_BLOCK_nests p e ha hc hk s m _ below hf ((Spec.applies_iff_loose hf).mp happ).1 ⟨rfl, State.Warmed39.refl s, rfl⟩ trivial
  refine ⟨n, _, h1, h2, h3, hpost _ _ _ _ _ _ ⟨Cond.after_iff.mpr rfl, Cond.after_iff.mpr (eq_i res_at (Term.int_eval (1)) rfl), trivial⟩ ⟨hq.1, hq.2.1, (hq.2.2.sift fun y hy => Or.inr (N y hy)).mono (by decide) (by decide)⟩⟩
theorem main_1_1 : Claimed_1_1 := comes_1 fun _ _ _ _ _ _ h hF => ⟨h.1, hF⟩
theorem main_1_2 : Claimed_1_2 := comes_1 fun _ _ _ _ _ _ h hF => ⟨h.2.1, hF⟩
end Jvm.Pilot.@@N@@
namespace Jvm.Pilot.@@N@@
open Jvm Jvm.ClassFile Sem Op Lib Jvm.Free Jvm.Stand Jvm.Pilot.@@N@@.Jvm.D
/-! MADE BY PROGRAM (witnessworld.py) out of the Statement's table words and the real class files: 10 classes; the members and pool entries that the words name. The judged class is class 1, her method 1. -/
namespace start1
open Jvm.ClassFile
def u (s : String) : CpInfo := .utf8 (stringToUtf16 s)
/-- a pool by its gaps: so many unusable entries, then the entry; so many at the end -/
def gap : Nat → List CpInfo → List CpInfo
  | 0, r => r
  | n + 1, r => .unusable :: gap n r
def poolList (es : List (Nat × CpInfo)) (last : Nat) : List CpInfo := es.foldr (fun e r => gap e.1 (e.2 :: r)) (gap last [])
def pool (es : List (Nat × CpInfo)) (last : Nat) : Array CpInfo := ⟨poolList es last⟩
def fileOf (pool : Array CpInfo) (this : Nat) (attrs : Array Attribute := #[]) (ms : Array MethodInfo := #[]) (fl : Nat := 33) (sup : Nat := 0) (ifs : Array Nat := #[]) (fds : Array FieldInfo := #[]) : ClassFile where
  minorVersion := 0
  majorVersion := 65
  constantPool := pool
  accessFlags := fl
  thisClass := this
  superClass := sup
  interfaces := ifs
  fields := fds
  methods := ms
  attributes := attrs
def plain (name : String) (sup : Option ClassId) : Class where
  name := name
  kind := .ordinary
  loader := none
  accessFlags := 33
  super := sup
  interfaces := #[]
  cf := none
  fields := #[]
  methods := #[]
  instanceTypes := #[]
  staticTypes := #[]
  resolved := #[]
  callSites := []
  init := .initialized
  statics := none
  mirror := none

def pool0 : Array CpInfo := pool [(5, u "<init>"), (0, u "()V"), (1, .class_ 10), (1, u "java/lang/Object")] 113

def k0m0 : Method := { name := "<init>", desc := "()V", sig := { parameters := [], returnType := none }, accessFlags := 1, code := none }
/-- java/lang/Object -/
def k0 : Class := { plain "java/lang/Object" none with
  accessFlags := 33
  interfaces := #[]
  cf := some (fileOf pool0 8 #[] #[{ accessFlags := 1, nameIndex := 5, descriptorIndex := 6, attributes := #[] }] 33 0 #[] #[])
  fields := #[]
  methods := #[k0m0]
  instanceTypes := #[]
  staticTypes := #[]
  resolved := Array.replicate 124 none
  statics := none }

def pool1 : Array CpInfo := pool [(2, .class_ 4), (1, u "java/lang/Object"), (0, u "<init>"), (0, u "()V"), (0, .methodref 8 9), (0, .class_ 10), (0, .nameAndType 11 12), (0, u "com/example/orderly_migration/orderlymigration/core/SqlTokens$Comment"), (0, u "block"), (0, u "(Z)Lcom/example/orderly_migration/orderlymigration/core/SqlTokens$Comment;"), (0, .methodref 8 14), (0, .nameAndType 15 16), (0, u "depth"), (0, u "()I"), (0, .methodref 8 18), (0, .nameAndType 19 20), (0, u "nests"), (0, u "()Z"), (0, .class_ 22), (0, u "com/example/orderly_migration/orderlymigration/core/CommentBlockPinLaw"), (2, u "law"), (0, u "(I)Z")] 7

def k1m0 : Method := { name := "<init>", desc := "()V", sig := { parameters := [], returnType := none }, accessFlags := 2, code := none }
def k1c1 : Code := { maxStack := 2, maxLocals := 3, code := code, exceptionTable := #[], attributes := #[] }
def k1m1 : Method := { name := "law", desc := "(I)Z", sig := { parameters := [.int], returnType := some .boolean }, accessFlags := 9, code := some k1c1 }
/-- com/example/orderly_migration/orderlymigration/core/CommentBlockPinLaw -/
def k1 : Class := { plain "com/example/orderly_migration/orderlymigration/core/CommentBlockPinLaw" (some 0) with
  accessFlags := 49
  interfaces := #[]
  cf := some (fileOf pool1 21 #[] #[{ accessFlags := 2, nameIndex := 5, descriptorIndex := 6, attributes := #[] }, { accessFlags := 9, nameIndex := 25, descriptorIndex := 26, attributes := #[] }] 49 2 #[] #[])
  fields := #[]
  methods := #[k1m0, k1m1]
  instanceTypes := #[]
  staticTypes := #[]
  resolved := Array.replicate 34 none
  statics := none }

def pool2 : Array CpInfo := pool [(2, .class_ 4), (1, u "java/lang/Object"), (0, u "<init>"), (0, u "()V"), (0, .class_ 8), (0, u "java/lang/Record")] 13

def k2m0 : Method := { name := "<init>", desc := "()V", sig := { parameters := [], returnType := none }, accessFlags := 4, code := none }
/-- java/lang/Record -/
def k2 : Class := { plain "java/lang/Record" (some 0) with
  accessFlags := 1057
  interfaces := #[]
  cf := some (fileOf pool2 7 #[] #[{ accessFlags := 4, nameIndex := 5, descriptorIndex := 6, attributes := #[] }] 1057 2 #[] #[])
  fields := #[]
  methods := #[k2m0]
  instanceTypes := #[]
  staticTypes := #[]
  resolved := Array.replicate 22 none
  statics := none }

def pool3 : Array CpInfo := pool [(1, .class_ 2), (0, u "com/example/orderly_migration/orderlymigration/core/SqlTokens"), (1, .class_ 6), (1, u "java/lang/Record"), (2, .fieldref 10 11), (0, .class_ 12), (0, .nameAndType 13 14), (0, u "com/example/orderly_migration/orderlymigration/core/SqlTokens$Comment"), (0, u "depth"), (0, u "I"), (0, .fieldref 10 16), (0, .nameAndType 17 18), (0, u "nests"), (0, u "Z"), (0, .fieldref 10 20), (0, .nameAndType 21 22), (0, u "NESTING_BLOCK"), (0, u "Lcom/example/orderly_migration/orderlymigration/core/SqlTokens$Comment;"), (0, .fieldref 10 24), (0, .nameAndType 25 22), (0, u "BLOCK"), (74, u "LINE"), (3, u "block"), (0, u "(Z)Lcom/example/orderly_migration/orderlymigration/core/SqlTokens$Comment;"), (4, u "()I"), (1, u "()Z")] 26

def k3c0 : Code := { maxStack := 1, maxLocals := 1, code := prog_58_method_2_code, exceptionTable := #[], attributes := #[] }
def k3m0 : Method := { name := "block", desc := "(Z)Lcom/example/orderly_migration/orderlymigration/core/SqlTokens$Comment;", sig := { parameters := [.boolean], returnType := some (.object "com/example/orderly_migration/orderlymigration/core/SqlTokens$Comment") }, accessFlags := 8, code := some k3c0 }
def k3c1 : Code := { maxStack := 1, maxLocals := 1, code := prog_58_method_7_code, exceptionTable := #[], attributes := #[] }
def k3m1 : Method := { name := "depth", desc := "()I", sig := { parameters := [], returnType := some .int }, accessFlags := 1, code := some k3c1 }
def k3c2 : Code := { maxStack := 1, maxLocals := 1, code := prog_58_method_8_code, exceptionTable := #[], attributes := #[] }
def k3m2 : Method := { name := "nests", desc := "()Z", sig := { parameters := [], returnType := some .boolean }, accessFlags := 1, code := some k3c2 }
/-- com/example/orderly_migration/orderlymigration/core/SqlTokens$Comment -/
def k3 : Class := { plain "com/example/orderly_migration/orderlymigration/core/SqlTokens$Comment" (some 2) with
  accessFlags := 48
  interfaces := #[]
  cf := some (fileOf pool3 10 #[.nestHost 1] #[{ accessFlags := 8, nameIndex := 104, descriptorIndex := 105, attributes := #[] }, { accessFlags := 1, nameIndex := 13, descriptorIndex := 110, attributes := #[] }, { accessFlags := 1, nameIndex := 17, descriptorIndex := 112, attributes := #[] }] 48 4 #[] #[{ accessFlags := 18, nameIndex := 13, descriptorIndex := 14, attributes := #[] }, { accessFlags := 18, nameIndex := 17, descriptorIndex := 18, attributes := #[] }, { accessFlags := 24, nameIndex := 100, descriptorIndex := 22, attributes := #[] }, { accessFlags := 26, nameIndex := 21, descriptorIndex := 22, attributes := #[] }, { accessFlags := 26, nameIndex := 25, descriptorIndex := 22, attributes := #[] }])
  fields := #[{ name := "depth", type := .int, accessFlags := 18, slot := 0, constantValue := 0 }, { name := "nests", type := .boolean, accessFlags := 18, slot := 1, constantValue := 0 }, { name := "LINE", type := (.object "com/example/orderly_migration/orderlymigration/core/SqlTokens$Comment"), accessFlags := 24, slot := 0, constantValue := 0 }, { name := "NESTING_BLOCK", type := (.object "com/example/orderly_migration/orderlymigration/core/SqlTokens$Comment"), accessFlags := 26, slot := 1, constantValue := 0 }, { name := "BLOCK", type := (.object "com/example/orderly_migration/orderlymigration/core/SqlTokens$Comment"), accessFlags := 26, slot := 2, constantValue := 0 }]
  methods := #[k3m0, k3m1, k3m2]
  instanceTypes := #[.int, .boolean]
  staticTypes := #[(.object "com/example/orderly_migration/orderlymigration/core/SqlTokens$Comment"), (.object "com/example/orderly_migration/orderlymigration/core/SqlTokens$Comment"), (.object "com/example/orderly_migration/orderlymigration/core/SqlTokens$Comment")]
  resolved := Array.replicate 139 none
  statics := some 0 }

def pool4 : Array CpInfo := pool [(1, u "java/lang/Cloneable"), (0, .class_ 1), (0, u "java/lang/Object"), (0, .class_ 3)] 3

/-- java/lang/Cloneable -/
def k4 : Class := { plain "java/lang/Cloneable" (some 0) with
  accessFlags := 1537
  interfaces := #[]
  cf := some (fileOf pool4 2 #[] #[] 1537 4 #[] #[])
  fields := #[]
  methods := #[]
  instanceTypes := #[]
  staticTypes := #[]
  resolved := Array.replicate 8 none
  statics := none }

def pool5 : Array CpInfo := pool [(1, u "java/io/Serializable"), (0, .class_ 1), (0, u "java/lang/Object"), (0, .class_ 3)] 3

/-- java/io/Serializable -/
def k5 : Class := { plain "java/io/Serializable" (some 0) with
  accessFlags := 1537
  interfaces := #[]
  cf := some (fileOf pool5 2 #[] #[] 1537 4 #[] #[])
  fields := #[]
  methods := #[]
  instanceTypes := #[]
  staticTypes := #[]
  resolved := Array.replicate 8 none
  statics := none }

/-- the primitive byte -/
def k6 : Class := { plain "byte" none with kind := .primitive 'B', accessFlags := 0x411 }
/-- [B -/
def k7 : Class := { plain "[B" (some 0) with kind := .array 6 .byte, interfaces := #[4, 5], accessFlags := 1041 }

/-- the primitive int -/
def k8 : Class := { plain "int" none with kind := .primitive 'I', accessFlags := 0x411 }
/-- [I -/
def k9 : Class := { plain "[I" (some 0) with kind := .array 8 .int, interfaces := #[4, 5], accessFlags := 1041 }

def heap : Heap := #[{ cls := 3, slots := #[.null, .ref 2, .ref 1], vm := .statics 3 },
  { cls := 3, slots := #[.int 1, .int 0], vm := .none },
  { cls := 3, slots := #[.int 1, .int 1], vm := .none }]
def classes : Array Class := #[k0, k1, k2, k3, k4, k5, k6, k7, k8, k9]
def interned : List (Array UInt16 × Addr) := []
def slotsUsed : Nat := 7
def theMethod : MethodId := ⟨1, 1⟩
def args0 : Array Value := #[.int 5]
def aboutOver (below : List Frame) : State where
  vm := { classes := classes, interned := interned.toArray }
  heap := heap
  slotsUsed := slotsUsed
  threads := #[{ frames := .invoking theMethod args0 :: below }]
def below0 : List Frame := [.native { method := ⟨0, 0⟩, args := #[] }]
def about1 : State := aboutOver below0
def p0 : Program := .bare "" "" ""
def e0 : Env := launch0.env 0 0 0
theorem w_frames : about1.frames = Frame.invoking theMethod args0 :: below0 := rfl
set_option maxRecDepth 65536 in
theorem w_args : argsFit about1.vm theMethod args0 = true := by decide +kernel
set_option maxRecDepth 65536 in
theorem w_heap : heapFits about1 = true := by decide +kernel
set_option maxRecDepth 65536 in
theorem w_runnable : about1.curStatus? = some .runnable := by decide +kernel
set_option maxRecDepth 65536 in
theorem w_alone : about1.alone = true := by decide +kernel
set_option maxRecDepth 65536 in
theorem w_named : about1.methodNamed? x = some theMethod := by decide +kernel
set_option maxRecDepth 65536 in
theorem w_hears : about1.hears theMethod below0 = true := by decide +kernel
set_option maxRecDepth 65536 in
theorem w_ripe : about1.ripe theMethod args0 below0 = true := by decide +kernel
theorem w_running : about1.status = .running := rfl
set_option maxRecDepth 65536 in
theorem w_room : about1.hasRoom e0.platform room_1 = true :=
  launch0.hasRoom_least _ room_1 (by decide +kernel) (by decide +kernel) (by decide +kernel) (by decide +kernel) (by decide +kernel) (by decide +kernel)
theorem allAtoms_all (ts : List Jvm.Cond) (a : Array Jvm.Value) (st : Jvm.State) : (allAtoms ts).before a st = ts.all (fun c => c.before a st) := by
  induction ts with
  | nil => rfl
  | cons c t ih =>
    show (Jvm.Cond.and c (allAtoms t)).before a st = _
    rw [Jvm.Cond.before_and, ih, List.all_cons]
def words1 : List Jvm.Cond := Jvm.Cond.code x code maxLocals ret :: tables_1
/-- a 'code' word, met by the world's own term for the bytes: nothing is compared byte by byte -/
theorem code_word {y : MethodName} {bytes : ByteArray} {mx : Nat} {rt : Option FieldType} {a : Array Value} {s : State} {m : MethodId} {meth : Method} {c : Code} (h1 : s.methodNamed? y = some m) (h2 : s.vm.method? m = some meth) (h3 : meth.code = some c) (h4 : c.code = bytes)
    (h5 : (c.maxLocals == mx && c.exceptionTable.isEmpty && decide (c.maxStack ≤ mostOperands) && decide (meth.sig.returnType = rt) && !meth.locks && decide (parseMethodDescriptor y.desc = some meth.sig)) = true) : (Jvm.Cond.code y bytes mx rt).before a s = true := by
  simp only [Bool.and_eq_true, beq_iff_eq, Bool.not_eq_true', decide_eq_true_eq] at h5
  obtain ⟨⟨⟨⟨⟨g1, g2⟩, g3⟩, g4⟩, g5⟩, g6⟩ := h5
  simp [Cond.before, Cond.holds, Cond.value, h1, h2, h3, h4, g1, g2, g3, g4, g5, g6]
def isCode : Jvm.Cond → Bool
  | .code _ _ _ _ => true
  | _ => false
theorem all_split {L : List Jvm.Cond} {P : Jvm.Cond → Bool} (h1 : L.all (fun c => isCode c || P c) = true) (h2 : ∀ c ∈ L.filter isCode, P c = true) : L.all P = true := by
  refine List.all_eq_true.mpr fun c hc => ?_
  have h := List.all_eq_true.mp h1 c hc
  rcases Bool.eq_false_or_eq_true (isCode c) with hi | hi
  · exact h2 c (List.mem_filter.mpr ⟨hc, hi⟩)
  · simpa [hi] using h
set_option maxRecDepth 65536 in
theorem w_c0 : (Jvm.Cond.code x code maxLocals ret).before args0 about1 = true := code_word (m := ⟨1, 1⟩) (meth := k1m1) (c := k1c1) (by decide +kernel) rfl rfl rfl (by decide +kernel)
set_option maxRecDepth 65536 in
theorem w_c1 : (Jvm.Cond.code ({ cls := "com/example/orderly_migration/orderlymigration/core/SqlTokens$Comment", name := "block", desc := "(Z)Lcom/example/orderly_migration/orderlymigration/core/SqlTokens$Comment;" } : Jvm.MethodName) prog_58_method_2_code (1 : Nat) (Option.some (Jvm.ClassFile.FieldType.object "com/example/orderly_migration/orderlymigration/core/SqlTokens$Comment"))).before args0 about1 = true := code_word (m := ⟨3, 0⟩) (meth := k3m0) (c := k3c0) (by decide +kernel) rfl rfl rfl (by decide +kernel)
set_option maxRecDepth 65536 in
theorem w_c2 : (Jvm.Cond.code ({ cls := "com/example/orderly_migration/orderlymigration/core/SqlTokens$Comment", name := "depth", desc := "()I" } : Jvm.MethodName) prog_58_method_7_code (1 : Nat) (Option.some Jvm.ClassFile.FieldType.int)).before args0 about1 = true := code_word (m := ⟨3, 1⟩) (meth := k3m1) (c := k3c1) (by decide +kernel) rfl rfl rfl (by decide +kernel)
set_option maxRecDepth 65536 in
theorem w_c3 : (Jvm.Cond.code ({ cls := "com/example/orderly_migration/orderlymigration/core/SqlTokens$Comment", name := "nests", desc := "()Z" } : Jvm.MethodName) prog_58_method_8_code (1 : Nat) (Option.some Jvm.ClassFile.FieldType.boolean)).before args0 about1 = true := code_word (m := ⟨3, 2⟩) (meth := k3m2) (c := k3c2) (by decide +kernel) rfl rfl rfl (by decide +kernel)
def codes1 : List Jvm.Cond := [Jvm.Cond.code x code maxLocals ret, Jvm.Cond.code ({ cls := "com/example/orderly_migration/orderlymigration/core/SqlTokens$Comment", name := "block", desc := "(Z)Lcom/example/orderly_migration/orderlymigration/core/SqlTokens$Comment;" } : Jvm.MethodName) prog_58_method_2_code (1 : Nat) (Option.some (Jvm.ClassFile.FieldType.object "com/example/orderly_migration/orderlymigration/core/SqlTokens$Comment")), Jvm.Cond.code ({ cls := "com/example/orderly_migration/orderlymigration/core/SqlTokens$Comment", name := "depth", desc := "()I" } : Jvm.MethodName) prog_58_method_7_code (1 : Nat) (Option.some Jvm.ClassFile.FieldType.int), Jvm.Cond.code ({ cls := "com/example/orderly_migration/orderlymigration/core/SqlTokens$Comment", name := "nests", desc := "()Z" } : Jvm.MethodName) prog_58_method_8_code (1 : Nat) (Option.some Jvm.ClassFile.FieldType.boolean)]
set_option maxRecDepth 65536 in
theorem codes_eq : words1.filter isCode = codes1 := rfl
theorem w_codes : ∀ c ∈ words1.filter isCode, c.before args0 about1 = true := by
  rw [codes_eq]
  intro c hc
  simp only [codes1, List.mem_cons, List.not_mem_nil, or_false] at hc
  rcases hc with rfl | rfl | rfl | rfl
  · exact w_c0
  · exact w_c1
  · exact w_c2
  · exact w_c3
set_option maxRecDepth 65536 in
theorem w_t1 : words1.all (fun c => isCode c || c.before args0 about1) = true := by decide +kernel
theorem w_tables : (allAtoms (Jvm.Cond.code x code maxLocals ret :: tables_1)).before args0 about1 = true := by
  rw [allAtoms_all]
  show words1.all (fun c => c.before args0 about1) = true
  refine all_split ?_ w_codes
  rw [w_t1]
set_option maxRecDepth 65536 in
theorem w_case : (Jvm.Cond.and given_1 narrow_1).before args0 about1 = true := by decide +kernel
theorem w_applies : (headSpec (Jvm.Cond.code x code maxLocals ret :: tables_1) room_1).applies x e0.platform about1 = true :=
  (Spec.applies_iff w_frames).mpr ⟨w_running, w_runnable, w_alone, w_named, w_hears, w_ripe, w_room, w_tables⟩
theorem atStart : AtStart classFile x code maxLocals ret World_1 tables_1 room_1 Calls_1 rest_1 Pre_1 launch0 p0 e0 about1 theMethod args0 below0 :=
  ⟨lists_1, trivial, launch0.admits_env _ _ _, launch0.least_env, fairChoices_fair.cas, fairChoices_fair.clock, w_frames, w_args, w_heap, w_applies, trivial, trivial, w_case⟩
end start1
theorem witness_1 : WitnessClaimed_1 := ⟨start1.p0, start1.e0, start1.about1, start1.theMethod, start1.args0, start1.below0, start1.atStart⟩
end Jvm.Pilot.@@N@@
