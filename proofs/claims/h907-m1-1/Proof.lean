import JvmDerived
import JvmDerived.Pilot.@@N@@Statement
import JvmDerived.Pilot.@@N@@Code
set_option linter.unusedVariables false
set_option linter.unusedSimpArgs false
namespace Jvm.Pilot.@@N@@
open Jvm Jvm.ClassFile Sem Op Lib Jvm.Free Jvm.Stand Jvm.LawKit Jvm.RoadKit Bundle Jvm.Pilot.@@N@@.Jvm.D
section Own
variable {p : Program} {l : Launch} {e : Env} {R : Room} {s : State} {m : MethodId} {args : Array Value} {below : List Frame} {meth : Method} {c : Code} {T : State} {locs : List Loc} {cells slots : Nat} {Z : State} {a0 : Array Value} {h : Heap} {Φ : Outcome → State → Prop}
/-- what is left of a walk: from S the invocation ends as Φ says -/
def OGo (tb : Tables) (e : Env) (below : List Frame) (Φ : Outcome → State → Prop) (S : State) : Prop := ∃ s₂ o, Steps tb e below S s₂ ∧ s₂.status = .running ∧ Ended s₂ below o ∧ Φ o s₂
theorem OGo.st {tb : Tables} {S S' : State} (h : ∀ t, Steps tb e below S' t → Steps tb e below S t) (g : OGo tb e below Φ S') : OGo tb e below Φ S := by
  obtain ⟨s₂, o, h1, r⟩ := g
  exact ⟨s₂, o, h _ h1, r⟩
theorem OGo.fin (X : Stand p l e R s m args below meth c T locs cells slots) (hlk : meth.locks = false) {v : Option Value} (hv : meth.sig.returnType = none → v = none) {g : JFrame} {k n : Nat} (hk : cells ≤ k) (hn : slots ≤ n)
    (st : ∀ fs, (∀ (f : JFrame) (acts : List Action), f.method = m → f.locked = none → f.entered = [] → (doReturn e (T.setTop f) acts v).1 = T.setFrames fs) → Steps p.tables e below (T.setTop g) (T.setFrames fs))
    (hq : ∀ U, U.heap = T.heap → FrameEnd s (.returned v) U locs k n → Φ (.returned v) U) : OGo p.tables e below Φ (T.setTop g) := by
  obtain ⟨fs, hr, hrun, hended, hW, hsame⟩ := X.leave (v := v) hv hlk
  exact ⟨_, _, st fs hr, hrun, hended, hq _ rfl ⟨⟨_, rfl⟩, hW, hsame.mono hk hn⟩⟩
/-- a contract: what every body's theorem says -/
abbrev OCon (l : Launch) (Z : State) (y : MethodName) (bytes : ByteArray) (maxL : Nat) (ret : Option FieldType) (ws : List Jvm.Cond) (rm : Room) (as' : Array Value) (h0 : Heap) (Q : Option Value → Heap → List Loc → Prop) : Prop :=
  MetFree l y (head1 (Jvm.Cond.code y bytes maxL ret :: ws) rm) (fun a U => a = as' ∧ Z.Warmed39 U.vm ∧ U.heap = h0) (fun _ _ _ _ _ => True) (fun _ U o U' => ∃ v L, o = .returned v ∧ Q v U'.heap L ∧ FrameEnd U o U' L rm.cells rm.slots)
theorem OCon.of {y : MethodName} {bytes : ByteArray} {maxL : Nat} {ret : Option FieldType} {ws : List Jvm.Cond} {rm : Room} {as' : Array Value} {h0 : Heap} {Q : Option Value → Heap → List Loc → Prop} (hpn : plainName y.cls = true)
    (H : ∀ (p : Program) (e : Env) (s : State) (m : MethodId) (below : List Frame) (meth : Method) (c : Code) (s₁ : State) (Φ : Outcome → State → Prop), Stand p l e rm s m as' below meth c s₁ [] 0 0 → p.tables.exec = Jvm.exec → c.code = bytes → c.maxLocals = maxL → s.vm.findClass y.cls = some m.cls → meth.name = y.name → meth.sig.returnType = ret → meth.locks = false → Z.Warmed39 s.vm → s₁.heap = h0 →
      (∀ v L U, Q v U.heap L → FrameEnd s (.returned v) U L rm.cells rm.slots → Φ (.returned v) U) → OGo p.tables e below Φ (s₁.setTop (entryFrame m as' maxL))) :
    OCon l Z y bytes maxL ret ws rm as' h0 Q := by
  refine MetFree.of_bodySF (plainFor_of_name hpn) hisR ?_
  intro p e s m args below meth c s₁ Bd hml0 hP hK
  obtain ⟨rfl, hZ, hh⟩ := hP
  have e0 : s₁.heap = h0 := by rw [← hh, Bd.state]; rfl
  exact H p e s m below meth c s₁ _ (Stand.of_body Bd) Bd.exec Bd.bytes hml0 (findClass_of_methodNamed Bd.named) (name_of_methodNamed Bd.named Bd.method).1 Bd.returns Bd.notSynchronized hZ e0 (fun v L U hq hf => ⟨v, L, rfl, hq, hf⟩)
theorem own_callSt (X : Stand p l e R s m args below meth c T locs cells slots) (hx : p.tables.exec = Jvm.exec) (hZ : Z.Warmed39 s.vm) {own : String} {index : Nat} {y : MethodName} {bytes : ByteArray} {maxL : Nat} {ret : Option FieldType} {rm : Room} {as' : Array Value} {Q : Option Value → Heap → List Loc → Prop}
    (hown : s.vm.findClass own = some m.cls) (w1 : (Jvm.Cond.methodLink own index y).before a0 Z = true) (w2 : (Jvm.Cond.static y).before a0 Z = true) (w3 : (Jvm.Cond.initialized y.cls).before a0 Z = true) (w4 : (Jvm.Cond.code y bytes maxL ret).before a0 Z = true) (hy : y.cls ≠ "java/lang/invoke/MethodHandle" ∧ y.cls ≠ "java/lang/invoke/VarHandle")
    (hM : OCon l Z y bytes maxL ret [] rm as' h Q) (eT : T.heap = h) {W : Nat} (hf : rm.frames + 1 ≤ R.frames) (hl : W + (maxL + 11) + rm.locals ≤ R.locals) (hcl : cells + rm.cells ≤ R.cells) (hsl : slots + rm.slots ≤ R.slots)
    {pc : Nat} {ls : Array Slot} {stk : List Value} (hsize : ls.size = c.maxLocals) {argsL rest : List Value} (hlen : ∀ sig, parseMethodDescriptor y.desc = some sig → argsL.length = sig.parameters.length) (has : argsL.toArray = as') (hstack : stk = argsL.reverse ++ rest) (hW : (rest.map fun v => v.category).sum ≤ W)
    (hd : decode c.code pc = .ok (.invokestatic index, 3)) :
    ∃ v T' L, Stand p l e R s m args below meth c T' (locs ++ L) (cells + rm.cells) (slots + rm.slots) ∧ Q v T'.heap L ∧ ∀ target, Steps p.tables e below (T'.setTop (mkF m (pc + 3) ls (v.toList ++ rest))) target → Steps p.tables e below (T.setTop (mkF m pc ls stk)) target := by
  subst has
  obtain ⟨v, vm₁, ⟨T', L', k', n'⟩, -, X', ⟨L, hQ, l1, y1, z1⟩, st⟩ := Jvm.LawKit.callS X hx (y := y) hown (mvT hZ w1) (mvT hZ w2) (mvT hZ w3) (mvT hZ w4) hy (backOf (W := W) hM hZ w4 w3 hf hl) (g := mkF m pc ls stk) rfl hsize (argsL := argsL) (rest := rest) hlen hstack (by simpa using hW) hd (fun _ _ => ⟨rfl, eT, hcl, hsl⟩)
  dsimp only [Pt.U, Pt.locs, Pt.cells, Pt.slots] at X' l1 y1 z1 st hQ
  subst l1 y1 z1
  exact ⟨v, T', L, X', hQ, st⟩
theorem own_callSp (X : Stand p l e R s m args below meth c T locs cells slots) (hx : p.tables.exec = Jvm.exec) (hZ : Z.Warmed39 s.vm) {own : String} {index : Nat} {y : MethodName} {bytes : ByteArray} {maxL : Nat} {rm : Room} {as' : Array Value} {Q : Option Value → Heap → List Loc → Prop}
    (hy1 : y.name = "<init>") (hown : s.vm.findClass own = some m.cls) (w1 : (Jvm.Cond.methodLink own index y).before a0 Z = true) (w2 : (Jvm.Cond.instanceMethod y).before a0 Z = true) (w3 : (Jvm.Cond.initialized y.cls).before a0 Z = true) (w4 : (Jvm.Cond.code y bytes maxL none).before a0 Z = true) (hy : y.cls ≠ "java/lang/invoke/MethodHandle" ∧ y.cls ≠ "java/lang/invoke/VarHandle")
    (hM : OCon l Z y bytes maxL none [] rm as' h Q) (eT : T.heap = h) {W : Nat} (hf : rm.frames + 1 ≤ R.frames) (hl : W + (maxL + 11) + rm.locals ≤ R.locals) (hcl : cells + rm.cells ≤ R.cells) (hsl : slots + rm.slots ≤ R.slots)
    {pc : Nat} {ls : Array Slot} {stk : List Value} (hsize : ls.size = c.maxLocals) {a : Addr} {argsL rest : List Value} (hlen : ∀ sig, parseMethodDescriptor y.desc = some sig → argsL.length = sig.parameters.length) (has : (.ref a :: argsL).toArray = as') (hstack : stk = argsL.reverse ++ .ref a :: rest) (hW : (rest.map fun v => v.category).sum ≤ W)
    (hd : decode c.code pc = .ok (.invokespecial index, 3)) :
    ∃ v T' L, Stand p l e R s m args below meth c T' (locs ++ L) (cells + rm.cells) (slots + rm.slots) ∧ Q v T'.heap L ∧ ∀ target, Steps p.tables e below (T'.setTop (mkF m (pc + 3) ls (v.toList ++ rest))) target → Steps p.tables e below (T.setTop (mkF m pc ls stk)) target := by
  subst has
  obtain ⟨v, vm₁, ⟨T', L', k', n'⟩, -, X', ⟨L, hQ, l1, y1, z1⟩, st⟩ := X.specialBack hx (y := y) hy1 hown (mvT hZ w1) (mvT hZ w2) (mvT hZ w4) hy (backOf (W := W) hM hZ w4 w3 hf hl) (g := mkF m pc ls stk) rfl hsize (Steps.refl _) (a := a) (argsL := argsL) (rest := rest) hlen hstack (by simpa using hW) hd (fun _ _ => ⟨rfl, eT, hcl, hsl⟩)
  dsimp only [Pt.U, Pt.locs, Pt.cells, Pt.slots] at X' l1 y1 z1 st hQ
  subst l1 y1 z1
  exact ⟨v, T', L, X', hQ, fun t k => st.trans k⟩
theorem own_callVi (X : Stand p l e R s m args below meth c T locs cells slots) (hx : p.tables.exec = Jvm.exec) (hZ : Z.Warmed39 s.vm) {own C : String} {index : Nat} {y z : MethodName} {bytes : ByteArray} {maxL : Nat} {ret : Option FieldType} {rm : Room} {as' : Array Value} {Q : Option Value → Heap → List Loc → Prop}
    (hown : s.vm.findClass own = some m.cls) (w1 : (Jvm.Cond.methodLink own index y).before a0 Z = true) (w2 : (Jvm.Cond.declares y).before a0 Z = true) (nf : NotFace s y) (w3 : (Jvm.Cond.selects C y z).before a0 Z = true) (w4 : (Jvm.Cond.instanceMethod z).before a0 Z = true) (w5 : (Jvm.Cond.initialized z.cls).before a0 Z = true) (w6 : (Jvm.Cond.code z bytes maxL ret).before a0 Z = true) (hy : y.cls ≠ "java/lang/invoke/MethodHandle" ∧ y.cls ≠ "java/lang/invoke/VarHandle")
    (hM : OCon l Z z bytes maxL ret [] rm as' h Q) (eT : T.heap = h) {W : Nat} (hf : rm.frames + 1 ≤ R.frames) (hl : W + (maxL + 11) + rm.locals ≤ R.locals) (hcl : cells + rm.cells ≤ R.cells) (hsl : slots + rm.slots ≤ R.slots) {a : Addr} (E : Exa Z h a C)
    {pc : Nat} {ls : Array Slot} {stk : List Value} (hsize : ls.size = c.maxLocals) {argsL rest : List Value} (hlen : ∀ sig, parseMethodDescriptor y.desc = some sig → argsL.length = sig.parameters.length) (has : (.ref a :: argsL).toArray = as') (hstack : stk = argsL.reverse ++ .ref a :: rest) (hW : (rest.map fun v => v.category).sum ≤ W)
    (hd : decode c.code pc = .ok (.invokevirtual index, 3)) :
    ∃ v T' L, Stand p l e R s m args below meth c T' (locs ++ L) (cells + rm.cells) (slots + rm.slots) ∧ Q v T'.heap L ∧ ∀ target, Steps p.tables e below (T'.setTop (mkF m (pc + 3) ls (v.toList ++ rest))) target → Steps p.tables e below (T.setTop (mkF m pc ls stk)) target := by
  subst has
  obtain ⟨cq, kq, qa, qb, qc⟩ := isOf hZ eT E
  obtain ⟨v, vm₁, ⟨T', L', k', n'⟩, -, X', ⟨L, hQ, l1, y1, z1⟩, st⟩ := X.virtualBack hx (y := y) (z := z) hown (mvT hZ w1) (mvT hZ w2) nf (mvT hZ w3) (mvT hZ w4) hy (backOf (W := W) hM hZ w6 w5 hf hl) qa qc (g := mkF m pc ls stk) rfl hsize (Steps.refl _) (argsL := argsL) (rest := rest) hlen hstack (by simpa using hW) hd (fun _ _ => ⟨rfl, eT, hcl, hsl⟩)
  dsimp only [Pt.U, Pt.locs, Pt.cells, Pt.slots] at X' l1 y1 z1 st hQ
  subst l1 y1 z1
  exact ⟨v, T', L, X', hQ, fun t k => st.trans k⟩
theorem own_nz {x : Int32} (q : x = 0 ∨ x = 1) : narrow .boolean (.int x) = .int x := by rcases q with rfl | rfl <;> rfl
theorem own_fz {x : Int32} (q : x = 0 ∨ x = 1) : fits .boolean (.int x) = true := by rcases q with rfl | rfl <;> rfl
theorem own_irr (x : Int32) : ¬ x < x := fun q => absurd (Int32.lt_iff_toInt_lt.mp q) (Int.lt_irrefl _)
theorem own_irrL (x : Int64) : ¬ x < x := fun q => absurd (Int64.lt_iff_toInt_lt.mp q) (Int.lt_irrefl _)
/-- a small int is one of the first n -/
theorem own_small {n : Nat} (hn : n < 2 ^ 31) (x : Int32) (h0 : ¬ x < 0) (h1 : x.toInt < n) : ∃ k : Fin n, x = Int32.ofInt k.val := by
  have h2 : 0 ≤ x.toInt := by
    rcases Int.lt_or_le x.toInt 0 with q | q
    · exact absurd (Int32.lt_iff_toInt_lt.mpr q) h0
    · exact q
  refine ⟨⟨x.toInt.toNat, by omega⟩, ?_⟩
  rw [Int.toNat_of_nonneg h2, Int32.ofInt_toInt]
end Own
theorem ow0 {Z : State} {a0 : Array Value} (hw : ∀ d ∈ tables_1, d.before a0 Z = true) : (Jvm.Cond.methodLink "com/example/orderly_migration/orderlymigration/core/QuotingBackslashEscapesInPinLaw" (8 : Nat) ({ cls := "com/example/orderly_migration/orderlymigration/core/QuotingBackslashEscapesInPinLaw", name := "pickQuote", desc := "(II)C" } : Jvm.MethodName)).before a0 Z = true := hw _ (List.mem_of_getElem? (i := 0) rfl)
theorem ow1 {Z : State} {a0 : Array Value} (hw : ∀ d ∈ tables_1, d.before a0 Z = true) : (Jvm.Cond.static ({ cls := "com/example/orderly_migration/orderlymigration/core/QuotingBackslashEscapesInPinLaw", name := "pickQuote", desc := "(II)C" } : Jvm.MethodName)).before a0 Z = true := hw _ (List.mem_of_getElem? (i := 1) rfl)
theorem ow2 {Z : State} {a0 : Array Value} (hw : ∀ d ∈ tables_1, d.before a0 Z = true) : (Jvm.Cond.initialized "com/example/orderly_migration/orderlymigration/core/QuotingBackslashEscapesInPinLaw").before a0 Z = true := hw _ (List.mem_of_getElem? (i := 2) rfl)
theorem ow3 {Z : State} {a0 : Array Value} (hw : ∀ d ∈ tables_1, d.before a0 Z = true) : (Jvm.Cond.code ({ cls := "com/example/orderly_migration/orderlymigration/core/QuotingBackslashEscapesInPinLaw", name := "pickQuote", desc := "(II)C" } : Jvm.MethodName) method_2_code (2 : Nat) (Option.some Jvm.ClassFile.FieldType.char)).before a0 Z = true := hw _ (List.mem_of_getElem? (i := 3) rfl)
theorem ow4 {Z : State} {a0 : Array Value} (hw : ∀ d ∈ tables_1, d.before a0 Z = true) : (Jvm.Cond.classLink "com/example/orderly_migration/orderlymigration/core/QuotingBackslashEscapesInPinLaw" (14 : Nat) "com/example/orderly_migration/orderlymigration/core/Quoting").before a0 Z = true := hw _ (List.mem_of_getElem? (i := 4) rfl)
theorem ow5 {Z : State} {a0 : Array Value} (hw : ∀ d ∈ tables_1, d.before a0 Z = true) : (Jvm.Cond.instantiable "com/example/orderly_migration/orderlymigration/core/Quoting" (2 : Nat)).before a0 Z = true := hw _ (List.mem_of_getElem? (i := 5) rfl)
theorem ow6 {Z : State} {a0 : Array Value} (hw : ∀ d ∈ tables_1, d.before a0 Z = true) : (Jvm.Cond.initialized "com/example/orderly_migration/orderlymigration/core/Quoting").before a0 Z = true := hw _ (List.mem_of_getElem? (i := 6) rfl)
theorem ow7 {Z : State} {a0 : Array Value} (hw : ∀ d ∈ tables_1, d.before a0 Z = true) : (Jvm.Cond.methodLink "com/example/orderly_migration/orderlymigration/core/QuotingBackslashEscapesInPinLaw" (16 : Nat) ({ cls := "com/example/orderly_migration/orderlymigration/core/Quoting", name := "<init>", desc := "(ZZ)V" } : Jvm.MethodName)).before a0 Z = true := hw _ (List.mem_of_getElem? (i := 7) rfl)
theorem ow8 {Z : State} {a0 : Array Value} (hw : ∀ d ∈ tables_1, d.before a0 Z = true) : (Jvm.Cond.instanceMethod ({ cls := "com/example/orderly_migration/orderlymigration/core/Quoting", name := "<init>", desc := "(ZZ)V" } : Jvm.MethodName)).before a0 Z = true := hw _ (List.mem_of_getElem? (i := 8) rfl)
theorem ow9 {Z : State} {a0 : Array Value} (hw : ∀ d ∈ tables_1, d.before a0 Z = true) : (Jvm.Cond.code ({ cls := "com/example/orderly_migration/orderlymigration/core/Quoting", name := "<init>", desc := "(ZZ)V" } : Jvm.MethodName) prog_41_method_1_code (3 : Nat) (Option.none : Option Jvm.ClassFile.FieldType)).before a0 Z = true := hw _ (List.mem_of_getElem? (i := 9) rfl)
theorem ow10 {Z : State} {a0 : Array Value} (hw : ∀ d ∈ tables_1, d.before a0 Z = true) : (Jvm.Cond.methodLink "com/example/orderly_migration/orderlymigration/core/Quoting" (1 : Nat) ({ cls := "java/lang/Record", name := "<init>", desc := "()V" } : Jvm.MethodName)).before a0 Z = true := hw _ (List.mem_of_getElem? (i := 10) rfl)
theorem ow11 {Z : State} {a0 : Array Value} (hw : ∀ d ∈ tables_1, d.before a0 Z = true) : (Jvm.Cond.instanceMethod ({ cls := "java/lang/Record", name := "<init>", desc := "()V" } : Jvm.MethodName)).before a0 Z = true := hw _ (List.mem_of_getElem? (i := 11) rfl)
theorem ow13 {Z : State} {a0 : Array Value} (hw : ∀ d ∈ tables_1, d.before a0 Z = true) : (Jvm.Cond.initialized "java/lang/Record").before a0 Z = true := hw _ (List.mem_of_getElem? (i := 13) rfl)
theorem ow14 {Z : State} {a0 : Array Value} (hw : ∀ d ∈ tables_1, d.before a0 Z = true) : (Jvm.Cond.code ({ cls := "java/lang/Record", name := "<init>", desc := "()V" } : Jvm.MethodName) jdk_30_method_1_code (1 : Nat) (Option.none : Option Jvm.ClassFile.FieldType)).before a0 Z = true := hw _ (List.mem_of_getElem? (i := 14) rfl)
theorem ow15 {Z : State} {a0 : Array Value} (hw : ∀ d ∈ tables_1, d.before a0 Z = true) : (Jvm.Cond.methodLink "java/lang/Record" (1 : Nat) ({ cls := "java/lang/Object", name := "<init>", desc := "()V" } : Jvm.MethodName)).before a0 Z = true := hw _ (List.mem_of_getElem? (i := 15) rfl)
theorem ow16 {Z : State} {a0 : Array Value} (hw : ∀ d ∈ tables_1, d.before a0 Z = true) : (Jvm.Cond.instanceMethod ({ cls := "java/lang/Object", name := "<init>", desc := "()V" } : Jvm.MethodName)).before a0 Z = true := hw _ (List.mem_of_getElem? (i := 16) rfl)
theorem ow17 {Z : State} {a0 : Array Value} (hw : ∀ d ∈ tables_1, d.before a0 Z = true) : (Jvm.Cond.code ({ cls := "java/lang/Object", name := "<init>", desc := "()V" } : Jvm.MethodName) object_method_1_code (1 : Nat) (Option.none : Option Jvm.ClassFile.FieldType)).before a0 Z = true := hw _ (List.mem_of_getElem? (i := 17) rfl)
theorem ow18 {Z : State} {a0 : Array Value} (hw : ∀ d ∈ tables_1, d.before a0 Z = true) : (Jvm.Cond.fieldLink "com/example/orderly_migration/orderlymigration/core/Quoting" (7 : Nat) "com/example/orderly_migration/orderlymigration/core/Quoting" "backslashEscapes" "Z").before a0 Z = true := hw _ (List.mem_of_getElem? (i := 18) rfl)
theorem ow19 {Z : State} {a0 : Array Value} (hw : ∀ d ∈ tables_1, d.before a0 Z = true) : (Jvm.Cond.laysFinal "com/example/orderly_migration/orderlymigration/core/Quoting" "com/example/orderly_migration/orderlymigration/core/Quoting" "backslashEscapes" "Z").before a0 Z = true := hw _ (List.mem_of_getElem? (i := 19) rfl)
theorem ow20 {Z : State} {a0 : Array Value} (hw : ∀ d ∈ tables_1, d.before a0 Z = true) : (Jvm.Cond.fieldLink "com/example/orderly_migration/orderlymigration/core/Quoting" (13 : Nat) "com/example/orderly_migration/orderlymigration/core/Quoting" "doubleQuotedNames" "Z").before a0 Z = true := hw _ (List.mem_of_getElem? (i := 20) rfl)
theorem ow21 {Z : State} {a0 : Array Value} (hw : ∀ d ∈ tables_1, d.before a0 Z = true) : (Jvm.Cond.laysFinal "com/example/orderly_migration/orderlymigration/core/Quoting" "com/example/orderly_migration/orderlymigration/core/Quoting" "doubleQuotedNames" "Z").before a0 Z = true := hw _ (List.mem_of_getElem? (i := 21) rfl)
theorem ow22 {Z : State} {a0 : Array Value} (hw : ∀ d ∈ tables_1, d.before a0 Z = true) : (Jvm.Cond.methodLink "com/example/orderly_migration/orderlymigration/core/QuotingBackslashEscapesInPinLaw" (19 : Nat) ({ cls := "com/example/orderly_migration/orderlymigration/core/Quoting", name := "backslashEscapesIn", desc := "(C)Z" } : Jvm.MethodName)).before a0 Z = true := hw _ (List.mem_of_getElem? (i := 22) rfl)
theorem ow23 {Z : State} {a0 : Array Value} (hw : ∀ d ∈ tables_1, d.before a0 Z = true) : (Jvm.Cond.declares ({ cls := "com/example/orderly_migration/orderlymigration/core/Quoting", name := "backslashEscapesIn", desc := "(C)Z" } : Jvm.MethodName)).before a0 Z = true := hw _ (List.mem_of_getElem? (i := 23) rfl)
theorem ow24 {Z : State} {a0 : Array Value} (hw : ∀ d ∈ tables_1, d.before a0 Z = true) : (Jvm.Cond.instanceMethod ({ cls := "com/example/orderly_migration/orderlymigration/core/Quoting", name := "backslashEscapesIn", desc := "(C)Z" } : Jvm.MethodName)).before a0 Z = true := hw _ (List.mem_of_getElem? (i := 24) rfl)
theorem ow25 {Z : State} {a0 : Array Value} (hw : ∀ d ∈ tables_1, d.before a0 Z = true) : (Jvm.Cond.selects "com/example/orderly_migration/orderlymigration/core/Quoting" ({ cls := "com/example/orderly_migration/orderlymigration/core/Quoting", name := "backslashEscapesIn", desc := "(C)Z" } : Jvm.MethodName) ({ cls := "com/example/orderly_migration/orderlymigration/core/Quoting", name := "backslashEscapesIn", desc := "(C)Z" } : Jvm.MethodName)).before a0 Z = true := hw _ (List.mem_of_getElem? (i := 25) rfl)
theorem ow26 {Z : State} {a0 : Array Value} (hw : ∀ d ∈ tables_1, d.before a0 Z = true) : (Jvm.Cond.code ({ cls := "com/example/orderly_migration/orderlymigration/core/Quoting", name := "backslashEscapesIn", desc := "(C)Z" } : Jvm.MethodName) prog_41_method_2_code (2 : Nat) (Option.some Jvm.ClassFile.FieldType.boolean)).before a0 Z = true := hw _ (List.mem_of_getElem? (i := 26) rfl)
theorem ow27 {Z : State} {a0 : Array Value} (hw : ∀ d ∈ tables_1, d.before a0 Z = true) : (Jvm.Cond.constant "com/example/orderly_migration/orderlymigration/core/QuotingBackslashEscapesInPinLaw" (7 : Nat) (65535 : Int32)).before a0 Z = true := hw _ (List.mem_of_getElem? (i := 27) rfl)
def own_pick (s q : Int32) : Int32 := if s = 0 then 39 else if s = 1 then 34 else if s = 2 then 96 else (q &&& 65535).toUInt32.toUInt16.toUInt32.toInt32
def own_bei (b d c : Int32) : Int32 := if b = 0 then 0 else if c = 39 then 1 else if c = 34 then (if d = 0 then 1 else 0) else 0

theorem pn0 : plainName "com/example/orderly_migration/orderlymigration/core/QuotingBackslashEscapesInPinLaw" = true := by first | (simp [plainName, overriddenIn]; done) | decide +kernel
theorem d_method_2_0 : decode method_2_code 0 = .ok (.iload_n 0, 1) := by decide +kernel
theorem d_method_2_1 : decode method_2_code 1 = .ok (.ifCond .ne 6, 3) := by decide +kernel
theorem d_method_2_4 : decode method_2_code 4 = .ok (.bipush 39, 2) := by decide +kernel
theorem d_method_2_6 : decode method_2_code 6 = .ok (.ireturn, 1) := by decide +kernel
theorem d_method_2_7 : decode method_2_code 7 = .ok (.iload_n 0, 1) := by decide +kernel
theorem d_method_2_8 : decode method_2_code 8 = .ok (.iconst 1, 1) := by decide +kernel
theorem d_method_2_9 : decode method_2_code 9 = .ok (.if_icmp .ne 6, 3) := by decide +kernel
theorem d_method_2_12 : decode method_2_code 12 = .ok (.bipush 34, 2) := by decide +kernel
theorem d_method_2_14 : decode method_2_code 14 = .ok (.ireturn, 1) := by decide +kernel
theorem d_method_2_15 : decode method_2_code 15 = .ok (.iload_n 0, 1) := by decide +kernel
theorem d_method_2_16 : decode method_2_code 16 = .ok (.iconst 2, 1) := by decide +kernel
theorem d_method_2_17 : decode method_2_code 17 = .ok (.if_icmp .ne 6, 3) := by decide +kernel
theorem d_method_2_20 : decode method_2_code 20 = .ok (.bipush 96, 2) := by decide +kernel
theorem d_method_2_22 : decode method_2_code 22 = .ok (.ireturn, 1) := by decide +kernel
theorem d_method_2_23 : decode method_2_code 23 = .ok (.iload_n 1, 1) := by decide +kernel
theorem d_method_2_24 : decode method_2_code 24 = .ok (.ldc 7, 2) := by decide +kernel
theorem d_method_2_26 : decode method_2_code 26 = .ok (.iand, 1) := by decide +kernel
theorem d_method_2_27 : decode method_2_code 27 = .ok (.i2c, 1) := by decide +kernel
theorem d_method_2_28 : decode method_2_code 28 = .ok (.ireturn, 1) := by decide +kernel
theorem ef_rm1 (m : MethodId) (x0 : Int32) (x1 : Int32) : entryFrame m #[(.int x0), (.int x1)] 2 = mkF m 0 #[.val (.int x0), .val (.int x1)] [] := by first | (simp [entryFrame, mkF, argsToLocals, Value.category]; done) | rfl
def Q_rm1 (Z : State) (x0 : Int32) (x1 : Int32) (h0 : Heap) (n0 : Nat) (v : Option Value) (h : Heap) (L : List Loc) : Prop := v = some (.int (own_pick x0 x1)) ∧ Fr n0 L ∧ h = h0
set_option maxRecDepth 65536 in
set_option maxHeartbeats 40000000 in
theorem rm1 (l : Launch) (Z : State) (a0 : Array Value) (hw : ∀ d ∈ tables_1, d.before a0 Z = true) (ws : List Jvm.Cond) (x0 : Int32) (x1 : Int32) (h0 : Heap) (n0 : Nat) (Z0 : n0 ≤ h0.size)  :
    OCon l Z (⟨"com/example/orderly_migration/orderlymigration/core/QuotingBackslashEscapesInPinLaw", "pickQuote", "(II)C"⟩ : MethodName) method_2_code 2 (some .char) ws ({ frames := 0, cells := 0, slots := 0, locals := 0 } : Room) #[(.int x0), (.int x1)] h0 (Q_rm1 Z x0 x1 h0 n0) := by
  refine OCon.of pn0 ?_
  intro p e s m below meth c s₁ Φ X0 hx hby hml hown hnm hret hlk hZ e0 hΦ
  have N0 := Fr.nil n0
  refine OGo.st (fun _ k => castTop (ef_rm1 m x0 x1) k) ?_
  show OGo p.tables e below Φ (s₁.setTop (mkF m 0 #[.val (.int x0), .val (.int x1)] []))
  refine OGo.st (fun _ k => XS.iloadN X0.here hx rfl (hb hby d_method_2_0) rfl k) ?_
  show OGo p.tables e below Φ (s₁.setTop (mkF m 1 #[.val (.int x0), .val (.int x1)] [(.int x0)]))
  by_cases hc1 : x0 = 0
  · refine OGo.st (fun _ k => XS.ifNo X0.here hx rfl (hb hby d_method_2_1) rfl (XT.i0_ne_f hc1) k) ?_
    show OGo p.tables e below Φ (s₁.setTop (mkF m 4 #[.val (.int x0), .val (.int x1)] []))
    refine OGo.st (fun _ k => XS.bipush X0.here hx rfl (hb hby d_method_2_4) k) ?_
    show OGo p.tables e below Φ (s₁.setTop (mkF m 6 #[.val (.int x0), .val (.int x1)] [(.int (39 : Int32))]))
    refine OGo.fin X0 hlk (v := (some (.int (39 : Int32)))) (fun h => by rw [hret] at h; cases h) (by decide) (by decide) (fun fs hr => X0.ireturnOut hx hret (by decide) (by simp) (hb hby d_method_2_6) hr) fun U eU hF => hΦ _ _ _ ?_ hF
    rw [eU, e0]
    show Q_rm1 Z x0 x1 h0 n0 _ _ _
    exact ⟨by simp [own_pick, hc1], N0, rfl⟩
  · refine OGo.st (fun _ k => XS.ifYes X0.here hx rfl (pc0 := 1) (pc' := 7) rfl (hb hby d_method_2_1) rfl (XT.i0_ne_t hc1) (by decide) (by decide) k) ?_
    show OGo p.tables e below Φ (s₁.setTop (mkF m 7 #[.val (.int x0), .val (.int x1)] []))
    refine OGo.st (fun _ k => XS.iloadN X0.here hx rfl (hb hby d_method_2_7) rfl k) ?_
    show OGo p.tables e below Φ (s₁.setTop (mkF m 8 #[.val (.int x0), .val (.int x1)] [(.int x0)]))
    refine OGo.st (fun _ k => XS.iconst X0.here hx rfl (hb hby d_method_2_8) k) ?_
    show OGo p.tables e below Φ (s₁.setTop (mkF m 9 #[.val (.int x0), .val (.int x1)] [(.int (1 : Int32)), (.int x0)]))
    by_cases hc2 : x0 = (1 : Int32)
    · refine OGo.st (fun _ k => XS.icmpNo X0.here hx rfl (hb hby d_method_2_9) rfl (XT.ii_ne_f hc2) k) ?_
      show OGo p.tables e below Φ (s₁.setTop (mkF m 12 #[.val (.int x0), .val (.int x1)] []))
      refine OGo.st (fun _ k => XS.bipush X0.here hx rfl (hb hby d_method_2_12) k) ?_
      show OGo p.tables e below Φ (s₁.setTop (mkF m 14 #[.val (.int x0), .val (.int x1)] [(.int (34 : Int32))]))
      refine OGo.fin X0 hlk (v := (some (.int (34 : Int32)))) (fun h => by rw [hret] at h; cases h) (by decide) (by decide) (fun fs hr => X0.ireturnOut hx hret (by decide) (by simp) (hb hby d_method_2_14) hr) fun U eU hF => hΦ _ _ _ ?_ hF
      rw [eU, e0]
      show Q_rm1 Z x0 x1 h0 n0 _ _ _
      exact ⟨by simp [own_pick, hc1, hc2], N0, rfl⟩
    · refine OGo.st (fun _ k => XS.icmpYes X0.here hx rfl (pc0 := 9) (pc' := 15) rfl (hb hby d_method_2_9) rfl (XT.ii_ne_t hc2) (by decide) (by decide) k) ?_
      show OGo p.tables e below Φ (s₁.setTop (mkF m 15 #[.val (.int x0), .val (.int x1)] []))
      refine OGo.st (fun _ k => XS.iloadN X0.here hx rfl (hb hby d_method_2_15) rfl k) ?_
      show OGo p.tables e below Φ (s₁.setTop (mkF m 16 #[.val (.int x0), .val (.int x1)] [(.int x0)]))
      refine OGo.st (fun _ k => XS.iconst X0.here hx rfl (hb hby d_method_2_16) k) ?_
      show OGo p.tables e below Φ (s₁.setTop (mkF m 17 #[.val (.int x0), .val (.int x1)] [(.int (2 : Int32)), (.int x0)]))
      by_cases hc3 : x0 = (2 : Int32)
      · refine OGo.st (fun _ k => XS.icmpNo X0.here hx rfl (hb hby d_method_2_17) rfl (XT.ii_ne_f hc3) k) ?_
        show OGo p.tables e below Φ (s₁.setTop (mkF m 20 #[.val (.int x0), .val (.int x1)] []))
        refine OGo.st (fun _ k => XS.bipush X0.here hx rfl (hb hby d_method_2_20) k) ?_
        show OGo p.tables e below Φ (s₁.setTop (mkF m 22 #[.val (.int x0), .val (.int x1)] [(.int (96 : Int32))]))
        refine OGo.fin X0 hlk (v := (some (.int (96 : Int32)))) (fun h => by rw [hret] at h; cases h) (by decide) (by decide) (fun fs hr => X0.ireturnOut hx hret (by decide) (by simp) (hb hby d_method_2_22) hr) fun U eU hF => hΦ _ _ _ ?_ hF
        rw [eU, e0]
        show Q_rm1 Z x0 x1 h0 n0 _ _ _
        exact ⟨by simp [own_pick, hc1, hc2, hc3], N0, rfl⟩
      · refine OGo.st (fun _ k => XS.icmpYes X0.here hx rfl (pc0 := 17) (pc' := 23) rfl (hb hby d_method_2_17) rfl (XT.ii_ne_t hc3) (by decide) (by decide) k) ?_
        show OGo p.tables e below Φ (s₁.setTop (mkF m 23 #[.val (.int x0), .val (.int x1)] []))
        refine OGo.st (fun _ k => XS.iloadN X0.here hx rfl (hb hby d_method_2_23) rfl k) ?_
        show OGo p.tables e below Φ (s₁.setTop (mkF m 24 #[.val (.int x0), .val (.int x1)] [(.int x1)]))
        refine OGo.st (fun _ k => X0.ldcI hx hown (mvT hZ (ow27 hw)) rfl (hb hby d_method_2_24) k) ?_
        show OGo p.tables e below Φ (s₁.setTop (mkF m 26 #[.val (.int x0), .val (.int x1)] [(.int (65535 : Int32)), (.int x1)]))
        refine OGo.st (fun _ k => XS.iand X0.here hx rfl (hb hby d_method_2_26) rfl k) ?_
        show OGo p.tables e below Φ (s₁.setTop (mkF m 27 #[.val (.int x0), .val (.int x1)] [(.int (x1 &&& (65535 : Int32)))]))
        refine OGo.st (fun _ k => XT.i2c X0.here hx rfl (hb hby d_method_2_27) rfl k) ?_
        show OGo p.tables e below Φ (s₁.setTop (mkF m 28 #[.val (.int x0), .val (.int x1)] [(.int ((x1 &&& (65535 : Int32)).toUInt32.toUInt16.toUInt32.toInt32))]))
        refine OGo.fin X0 hlk (v := (some (.int ((x1 &&& (65535 : Int32)).toUInt32.toUInt16.toUInt32.toInt32)))) (fun h => by rw [hret] at h; cases h) (by decide) (by decide) (fun fs hr => X0.ireturnOut hx hret (XT.narrow_c _) (by simp) (hb hby d_method_2_28) hr) fun U eU hF => hΦ _ _ _ ?_ hF
        rw [eU, e0]
        show Q_rm1 Z x0 x1 h0 n0 _ _ _
        exact ⟨by simp [own_pick, hc1, hc2, hc3], N0, rfl⟩

theorem pn1 : plainName "java/lang/Record" = true := by first | (simp [plainName, overriddenIn]; done) | decide +kernel
theorem d_jdk_30_method_1_0 : decode jdk_30_method_1_code 0 = .ok (.aload_n 0, 1) := by decide +kernel
theorem d_jdk_30_method_1_1 : decode jdk_30_method_1_code 1 = .ok (.invokespecial 1, 3) := by decide +kernel
theorem d_jdk_30_method_1_4 : decode jdk_30_method_1_code 4 = .ok (.return_, 1) := by decide +kernel
theorem ef_rm2 (m : MethodId) (x0 : Addr) : entryFrame m #[(.ref x0)] 1 = mkF m 0 #[.val (.ref x0)] [] := by first | (simp [entryFrame, mkF, argsToLocals, Value.category]; done) | rfl
def Q_rm2 (Z : State) (a : Addr) (h0 : Heap) (n0 : Nat) (v : Option Value) (h : Heap) (L : List Loc) : Prop := v = none ∧ Fr n0 L ∧ h = h0
set_option maxRecDepth 65536 in
set_option maxHeartbeats 40000000 in
theorem rm2 (l : Launch) (Z : State) (a0 : Array Value) (hw : ∀ d ∈ tables_1, d.before a0 Z = true) (ws : List Jvm.Cond) (a : Addr) (h0 : Heap) (n0 : Nat) (Z0 : n0 ≤ h0.size)  :
    OCon l Z (⟨"java/lang/Record", "<init>", "()V"⟩ : MethodName) jdk_30_method_1_code 1 none ws ({ frames := 1, cells := 0, slots := 0, locals := 12 } : Room) #[(.ref a)] h0 (Q_rm2 Z a h0 n0) := by
  refine OCon.of pn1 ?_
  intro p e s m below meth c s₁ Φ X0 hx hby hml hown hnm hret hlk hZ e0 hΦ
  have N0 := Fr.nil n0
  refine OGo.st (fun _ k => castTop (ef_rm2 m a) k) ?_
  show OGo p.tables e below Φ (s₁.setTop (mkF m 0 #[.val (.ref a)] []))
  refine OGo.st (fun _ k => XS.aloadN X0.here hx rfl (hb hby d_jdk_30_method_1_0) rfl rfl k) ?_
  show OGo p.tables e below Φ (s₁.setTop (mkF m 1 #[.val (.ref a)] [(.ref a)]))
  obtain ⟨T1, X1, e1, st1⟩ := initO X0 hx hZ hown (ow15 hw) (ow16 hw) (ow17 hw) e0 (g := (mkF m 1 #[.val (.ref a)] [(.ref a)])) rfl (by rw [hml]; rfl) rfl (hb hby d_jdk_30_method_1_1) (by decide) (W := 0) (Nat.le_of_eq rfl) (by decide)
  refine OGo.st st1 ?_
  show OGo p.tables e below Φ (T1.setTop (mkF m 4 #[.val (.ref a)] []))
  refine OGo.fin X1 hlk (v := none) (fun _ => rfl) (by decide) (by decide) (fun fs hr => X1.returnOut hx hret (hb hby d_jdk_30_method_1_4) hr) fun U eU hF => hΦ _ _ _ ?_ hF
  rw [eU, e1]
  show Q_rm2 Z a h0 n0 _ _ _
  exact ⟨rfl, N0, rfl⟩

theorem pn2 : plainName "com/example/orderly_migration/orderlymigration/core/Quoting" = true := by first | (simp [plainName, overriddenIn]; done) | decide +kernel
theorem d_prog_41_method_1_0 : decode prog_41_method_1_code 0 = .ok (.aload_n 0, 1) := by decide +kernel
theorem d_prog_41_method_1_1 : decode prog_41_method_1_code 1 = .ok (.invokespecial 1, 3) := by decide +kernel
theorem pd0 : parseMethodDescriptor "()V" = some ⟨[], none⟩ := by decide +kernel
theorem d_prog_41_method_1_4 : decode prog_41_method_1_code 4 = .ok (.aload_n 0, 1) := by decide +kernel
theorem d_prog_41_method_1_5 : decode prog_41_method_1_code 5 = .ok (.iload_n 1, 1) := by decide +kernel
theorem d_prog_41_method_1_6 : decode prog_41_method_1_code 6 = .ok (.putfield 7, 3) := by decide +kernel
theorem d_prog_41_method_1_9 : decode prog_41_method_1_code 9 = .ok (.aload_n 0, 1) := by decide +kernel
theorem d_prog_41_method_1_10 : decode prog_41_method_1_code 10 = .ok (.iload_n 2, 1) := by decide +kernel
theorem d_prog_41_method_1_11 : decode prog_41_method_1_code 11 = .ok (.putfield 13, 3) := by decide +kernel
theorem d_prog_41_method_1_14 : decode prog_41_method_1_code 14 = .ok (.return_, 1) := by decide +kernel
theorem ef_rm3 (m : MethodId) (x0 : Addr) (x1 : Int32) (x2 : Int32) : entryFrame m #[(.ref x0), (.int x1), (.int x2)] 3 = mkF m 0 #[.val (.ref x0), .val (.int x1), .val (.int x2)] [] := by first | (simp [entryFrame, mkF, argsToLocals, Value.category]; done) | rfl
def Q_rm3 (Z : State) (a : Addr) (x1 : Int32) (x2 : Int32) (u0 : Value) (u1 : Value) (h0 : Heap) (n0 : Nat) (v : Option Value) (h : Heap) (L : List Loc) : Prop := v = none ∧ Fr n0 L ∧ Keep h0 h [a] ∧ Exa Z h a "com/example/orderly_migration/orderlymigration/core/Quoting" ∧ Fld Z h a "com/example/orderly_migration/orderlymigration/core/Quoting" "backslashEscapes" "Z" (.int x1) ∧ Fld Z h a "com/example/orderly_migration/orderlymigration/core/Quoting" "doubleQuotedNames" "Z" (.int x2)
set_option maxRecDepth 65536 in
set_option maxHeartbeats 40000000 in
theorem rm3 (l : Launch) (Z : State) (a0 : Array Value) (hw : ∀ d ∈ tables_1, d.before a0 Z = true) (ws : List Jvm.Cond) (a : Addr) (x1 : Int32) (x2 : Int32) (u0 : Value) (u1 : Value) (h0 : Heap) (n0 : Nat) (Z0 : n0 ≤ h0.size) (E_a : Exa Z h0 a "com/example/orderly_migration/orderlymigration/core/Quoting") (g_a : n0 ≤ a) (F_0 : Fld Z h0 a "com/example/orderly_migration/orderlymigration/core/Quoting" "backslashEscapes" "Z" u0) (F_1 : Fld Z h0 a "com/example/orderly_migration/orderlymigration/core/Quoting" "doubleQuotedNames" "Z" u1) (hz1 : x1 = 0 ∨ x1 = 1) (hz2 : x2 = 0 ∨ x2 = 1) :
    OCon l Z (⟨"com/example/orderly_migration/orderlymigration/core/Quoting", "<init>", "(ZZ)V"⟩ : MethodName) prog_41_method_1_code 3 none ws ({ frames := 2, cells := 0, slots := 0, locals := 24 } : Room) #[(.ref a), (.int x1), (.int x2)] h0 (Q_rm3 Z a x1 x2 u0 u1 h0 n0) := by
  refine OCon.of pn2 ?_
  intro p e s m below meth c s₁ Φ X0 hx hby hml hown hnm hret hlk hZ e0 hΦ
  have N0 := Fr.nil n0
  refine OGo.st (fun _ k => castTop (ef_rm3 m a x1 x2) k) ?_
  have K0 := Keep.refl h0 [a]
  show OGo p.tables e below Φ (s₁.setTop (mkF m 0 #[.val (.ref a), .val (.int x1), .val (.int x2)] []))
  refine OGo.st (fun _ k => XS.aloadN X0.here hx rfl (hb hby d_prog_41_method_1_0) rfl rfl k) ?_
  show OGo p.tables e below Φ (s₁.setTop (mkF m 1 #[.val (.ref a), .val (.int x1), .val (.int x2)] [(.ref a)]))
  obtain ⟨_, T1, L1, X1, hQ1, st1⟩ := own_callSp X0 hx hZ rfl hown (ow10 hw) (ow11 hw) (ow13 hw) (ow14 hw) (by decide) (rm2 l Z a0 hw [] a h0 n0 Z0 ) e0 (W := 0) (by decide) (by decide) (by decide) (by decide) (pc := 1) (ls := #[.val (.ref a), .val (.int x1), .val (.int x2)]) (stk := [(.ref a)]) (by rw [hml]; rfl) (a := a) (argsL := []) (rest := []) (lenOf pd0 rfl) rfl rfl (Nat.le_of_eq rfl) (hb hby d_prog_41_method_1_1)
  obtain ⟨rfl, Nq1, e1⟩ := hQ1
  have N1 := Fr.app N0 Nq1
  refine OGo.st st1 ?_
  show OGo p.tables e below Φ (T1.setTop (mkF m 4 #[.val (.ref a), .val (.int x1), .val (.int x2)] []))
  refine OGo.st (fun _ k => XS.aloadN X1.here hx rfl (hb hby d_prog_41_method_1_4) rfl rfl k) ?_
  show OGo p.tables e below Φ (T1.setTop (mkF m 5 #[.val (.ref a), .val (.int x1), .val (.int x2)] [(.ref a)]))
  refine OGo.st (fun _ k => XS.iloadN X1.here hx rfl (hb hby d_prog_41_method_1_5) rfl k) ?_
  show OGo p.tables e below Φ (T1.setTop (mkF m 6 #[.val (.ref a), .val (.int x1), .val (.int x2)] [(.int x1), (.ref a)]))
  obtain ⟨T2, h2, X2, e2, W2, st2⟩ := putF X1 hx hZ hown (host := "") (Or.inl (ow18 hw)) Via.refl e1 F_0 E_a (Or.inr ⟨(ow19 hw), rfl, hnm⟩) (ow5 hw) (ty := .boolean) (by decide) (own_nz hz1) (own_fz hz1) (g := (mkF m 6 #[.val (.ref a), .val (.int x1), .val (.int x2)] [(.int x1), (.ref a)])) rfl rfl (hb hby d_prog_41_method_1_6)
  have F3 := E_a.wr W2
  have F4 := F_0.same W2
  have F5 := F_1.other W2 (Or.inr (slot_ne (Or.inr (ow21 hw)) (Or.inr (ow19 hw)) (by decide) (t := .boolean) (t' := .boolean) (by decide) (by decide)))
  have K2 := K0.wr W2 (Or.inl (List.mem_of_getElem? (i := 0) rfl))
  have N2 := Fr.snoc X2 N1 g_a
  have Zs2 : n0 ≤ h2.size := by rw [W2.size]; exact Z0
  refine OGo.st st2 ?_
  show OGo p.tables e below Φ (T2.setTop (mkF m 9 #[.val (.ref a), .val (.int x1), .val (.int x2)] []))
  refine OGo.st (fun _ k => XS.aloadN X2.here hx rfl (hb hby d_prog_41_method_1_9) rfl rfl k) ?_
  show OGo p.tables e below Φ (T2.setTop (mkF m 10 #[.val (.ref a), .val (.int x1), .val (.int x2)] [(.ref a)]))
  refine OGo.st (fun _ k => XS.iloadN X2.here hx rfl (hb hby d_prog_41_method_1_10) rfl k) ?_
  show OGo p.tables e below Φ (T2.setTop (mkF m 11 #[.val (.ref a), .val (.int x1), .val (.int x2)] [(.int x2), (.ref a)]))
  obtain ⟨T6, h6, X6, e6, W6, st6⟩ := putF X2 hx hZ hown (host := "") (Or.inl (ow20 hw)) Via.refl e2 F5 F3 (Or.inr ⟨(ow21 hw), rfl, hnm⟩) (ow5 hw) (ty := .boolean) (by decide) (own_nz hz2) (own_fz hz2) (g := (mkF m 11 #[.val (.ref a), .val (.int x1), .val (.int x2)] [(.int x2), (.ref a)])) rfl rfl (hb hby d_prog_41_method_1_11)
  have F7 := F3.wr W6
  have F8 := F4.other W6 (Or.inr (slot_ne (Or.inr (ow19 hw)) (Or.inr (ow21 hw)) (by decide) (t := .boolean) (t' := .boolean) (by decide) (by decide)))
  have F9 := F5.same W6
  have K6 := K2.wr W6 (Or.inl (List.mem_of_getElem? (i := 0) rfl))
  have N6 := Fr.snoc X6 N2 g_a
  have Zs6 : n0 ≤ h6.size := by rw [W6.size]; exact Zs2
  refine OGo.st st6 ?_
  show OGo p.tables e below Φ (T6.setTop (mkF m 14 #[.val (.ref a), .val (.int x1), .val (.int x2)] []))
  refine OGo.fin X6 hlk (v := none) (fun _ => rfl) (by decide) (by decide) (fun fs hr => X6.returnOut hx hret (hb hby d_prog_41_method_1_14) hr) fun U eU hF => hΦ _ _ _ ?_ hF
  rw [eU, e6]
  show Q_rm3 Z a x1 x2 u0 u1 h0 n0 _ _ _
  exact ⟨rfl, N6, K6, F7, F8, F9⟩

theorem d_prog_41_method_2_0 : decode prog_41_method_2_code 0 = .ok (.aload_n 0, 1) := by decide +kernel
theorem d_prog_41_method_2_1 : decode prog_41_method_2_code 1 = .ok (.getfield 7, 3) := by decide +kernel
theorem d_prog_41_method_2_4 : decode prog_41_method_2_code 4 = .ok (.ifCond .eq 26, 3) := by decide +kernel
theorem d_prog_41_method_2_30 : decode prog_41_method_2_code 30 = .ok (.iconst 0, 1) := by decide +kernel
theorem d_prog_41_method_2_31 : decode prog_41_method_2_code 31 = .ok (.ireturn, 1) := by decide +kernel
theorem d_prog_41_method_2_7 : decode prog_41_method_2_code 7 = .ok (.iload_n 1, 1) := by decide +kernel
theorem d_prog_41_method_2_8 : decode prog_41_method_2_code 8 = .ok (.bipush 39, 2) := by decide +kernel
theorem d_prog_41_method_2_10 : decode prog_41_method_2_code 10 = .ok (.if_icmp .eq 16, 3) := by decide +kernel
theorem d_prog_41_method_2_26 : decode prog_41_method_2_code 26 = .ok (.iconst 1, 1) := by decide +kernel
theorem d_prog_41_method_2_27 : decode prog_41_method_2_code 27 = .ok (.goto 4, 3) := by decide +kernel
theorem d_prog_41_method_2_13 : decode prog_41_method_2_code 13 = .ok (.iload_n 1, 1) := by decide +kernel
theorem d_prog_41_method_2_14 : decode prog_41_method_2_code 14 = .ok (.bipush 34, 2) := by decide +kernel
theorem d_prog_41_method_2_16 : decode prog_41_method_2_code 16 = .ok (.if_icmp .ne 14, 3) := by decide +kernel
theorem d_prog_41_method_2_19 : decode prog_41_method_2_code 19 = .ok (.aload_n 0, 1) := by decide +kernel
theorem d_prog_41_method_2_20 : decode prog_41_method_2_code 20 = .ok (.getfield 13, 3) := by decide +kernel
theorem d_prog_41_method_2_23 : decode prog_41_method_2_code 23 = .ok (.ifCond .ne 7, 3) := by decide +kernel
theorem ef_rm4 (m : MethodId) (x0 : Addr) (x1 : Int32) : entryFrame m #[(.ref x0), (.int x1)] 2 = mkF m 0 #[.val (.ref x0), .val (.int x1)] [] := by first | (simp [entryFrame, mkF, argsToLocals, Value.category]; done) | rfl
def Q_rm4 (Z : State) (a : Addr) (b : Int32) (d : Int32) (ch : Int32) (h0 : Heap) (n0 : Nat) (v : Option Value) (h : Heap) (L : List Loc) : Prop := v = some (.int (own_bei b d ch)) ∧ Fr n0 L ∧ h = h0
set_option maxRecDepth 65536 in
set_option maxHeartbeats 40000000 in
theorem rm4 (l : Launch) (Z : State) (a0 : Array Value) (hw : ∀ d ∈ tables_1, d.before a0 Z = true) (ws : List Jvm.Cond) (a : Addr) (b : Int32) (d : Int32) (ch : Int32) (h0 : Heap) (n0 : Nat) (Z0 : n0 ≤ h0.size) (F_b : Fld Z h0 a "com/example/orderly_migration/orderlymigration/core/Quoting" "backslashEscapes" "Z" (.int b)) (F_d : Fld Z h0 a "com/example/orderly_migration/orderlymigration/core/Quoting" "doubleQuotedNames" "Z" (.int d)) :
    OCon l Z (⟨"com/example/orderly_migration/orderlymigration/core/Quoting", "backslashEscapesIn", "(C)Z"⟩ : MethodName) prog_41_method_2_code 2 (some .boolean) ws ({ frames := 0, cells := 0, slots := 0, locals := 0 } : Room) #[(.ref a), (.int ch)] h0 (Q_rm4 Z a b d ch h0 n0) := by
  refine OCon.of pn2 ?_
  intro p e s m below meth c s₁ Φ X0 hx hby hml hown hnm hret hlk hZ e0 hΦ
  have N0 := Fr.nil n0
  refine OGo.st (fun _ k => castTop (ef_rm4 m a ch) k) ?_
  show OGo p.tables e below Φ (s₁.setTop (mkF m 0 #[.val (.ref a), .val (.int ch)] []))
  refine OGo.st (fun _ k => XS.aloadN X0.here hx rfl (hb hby d_prog_41_method_2_0) rfl rfl k) ?_
  show OGo p.tables e below Φ (s₁.setTop (mkF m 1 #[.val (.ref a), .val (.int ch)] [(.ref a)]))
  obtain ⟨T1, X1, e1, st1⟩ := getF X0 hx hZ hown (host := "") (Or.inl (ow18 hw)) Via.refl e0 F_b (g := (mkF m 1 #[.val (.ref a), .val (.int ch)] [(.ref a)])) rfl rfl (hb hby d_prog_41_method_2_1)
  refine OGo.st st1 ?_
  show OGo p.tables e below Φ (T1.setTop (mkF m 4 #[.val (.ref a), .val (.int ch)] [(.int b)]))
  by_cases hc2 : b = 0
  · refine OGo.st (fun _ k => XS.ifYes X1.here hx rfl (pc0 := 4) (pc' := 30) rfl (hb hby d_prog_41_method_2_4) rfl (XT.i0_eq_t hc2) (by decide) (by decide) k) ?_
    show OGo p.tables e below Φ (T1.setTop (mkF m 30 #[.val (.ref a), .val (.int ch)] []))
    refine OGo.st (fun _ k => XS.iconst X1.here hx rfl (hb hby d_prog_41_method_2_30) k) ?_
    show OGo p.tables e below Φ (T1.setTop (mkF m 31 #[.val (.ref a), .val (.int ch)] [(.int (0 : Int32))]))
    refine OGo.fin X1 hlk (v := (some (.int (0 : Int32)))) (fun h => by rw [hret] at h; cases h) (by decide) (by decide) (fun fs hr => X1.ireturnOut hx hret rfl (by simp) (hb hby d_prog_41_method_2_31) hr) fun U eU hF => hΦ _ _ _ ?_ hF
    rw [eU, e1]
    show Q_rm4 Z a b d ch h0 n0 _ _ _
    exact ⟨by simp [own_bei, hc2], N0, rfl⟩
  · refine OGo.st (fun _ k => XS.ifNo X1.here hx rfl (hb hby d_prog_41_method_2_4) rfl (XT.i0_eq_f hc2) k) ?_
    show OGo p.tables e below Φ (T1.setTop (mkF m 7 #[.val (.ref a), .val (.int ch)] []))
    refine OGo.st (fun _ k => XS.iloadN X1.here hx rfl (hb hby d_prog_41_method_2_7) rfl k) ?_
    show OGo p.tables e below Φ (T1.setTop (mkF m 8 #[.val (.ref a), .val (.int ch)] [(.int ch)]))
    refine OGo.st (fun _ k => XS.bipush X1.here hx rfl (hb hby d_prog_41_method_2_8) k) ?_
    show OGo p.tables e below Φ (T1.setTop (mkF m 10 #[.val (.ref a), .val (.int ch)] [(.int (39 : Int32)), (.int ch)]))
    by_cases hc3 : ch = (39 : Int32)
    · refine OGo.st (fun _ k => XS.icmpYes X1.here hx rfl (pc0 := 10) (pc' := 26) rfl (hb hby d_prog_41_method_2_10) rfl (XT.ii_eq_t hc3) (by decide) (by decide) k) ?_
      show OGo p.tables e below Φ (T1.setTop (mkF m 26 #[.val (.ref a), .val (.int ch)] []))
      refine OGo.st (fun _ k => XS.iconst X1.here hx rfl (hb hby d_prog_41_method_2_26) k) ?_
      show OGo p.tables e below Φ (T1.setTop (mkF m 27 #[.val (.ref a), .val (.int ch)] [(.int (1 : Int32))]))
      refine OGo.st (fun _ k => XS.goto X1.here hx rfl (pc0 := 27) (pc' := 31) rfl (hb hby d_prog_41_method_2_27) (by decide) (by decide) k) ?_
      show OGo p.tables e below Φ (T1.setTop (mkF m 31 #[.val (.ref a), .val (.int ch)] [(.int (1 : Int32))]))
      refine OGo.fin X1 hlk (v := (some (.int (1 : Int32)))) (fun h => by rw [hret] at h; cases h) (by decide) (by decide) (fun fs hr => X1.ireturnOut hx hret rfl (by simp) (hb hby d_prog_41_method_2_31) hr) fun U eU hF => hΦ _ _ _ ?_ hF
      rw [eU, e1]
      show Q_rm4 Z a b d ch h0 n0 _ _ _
      exact ⟨by simp [own_bei, hc2, hc3], N0, rfl⟩
    · refine OGo.st (fun _ k => XS.icmpNo X1.here hx rfl (hb hby d_prog_41_method_2_10) rfl (XT.ii_eq_f hc3) k) ?_
      show OGo p.tables e below Φ (T1.setTop (mkF m 13 #[.val (.ref a), .val (.int ch)] []))
      refine OGo.st (fun _ k => XS.iloadN X1.here hx rfl (hb hby d_prog_41_method_2_13) rfl k) ?_
      show OGo p.tables e below Φ (T1.setTop (mkF m 14 #[.val (.ref a), .val (.int ch)] [(.int ch)]))
      refine OGo.st (fun _ k => XS.bipush X1.here hx rfl (hb hby d_prog_41_method_2_14) k) ?_
      show OGo p.tables e below Φ (T1.setTop (mkF m 16 #[.val (.ref a), .val (.int ch)] [(.int (34 : Int32)), (.int ch)]))
      by_cases hc4 : ch = (34 : Int32)
      · refine OGo.st (fun _ k => XS.icmpNo X1.here hx rfl (hb hby d_prog_41_method_2_16) rfl (XT.ii_ne_f hc4) k) ?_
        show OGo p.tables e below Φ (T1.setTop (mkF m 19 #[.val (.ref a), .val (.int ch)] []))
        refine OGo.st (fun _ k => XS.aloadN X1.here hx rfl (hb hby d_prog_41_method_2_19) rfl rfl k) ?_
        show OGo p.tables e below Φ (T1.setTop (mkF m 20 #[.val (.ref a), .val (.int ch)] [(.ref a)]))
        obtain ⟨T5, X5, e5, st5⟩ := getF X1 hx hZ hown (host := "") (Or.inl (ow20 hw)) Via.refl e1 F_d (g := (mkF m 20 #[.val (.ref a), .val (.int ch)] [(.ref a)])) rfl rfl (hb hby d_prog_41_method_2_20)
        refine OGo.st st5 ?_
        show OGo p.tables e below Φ (T5.setTop (mkF m 23 #[.val (.ref a), .val (.int ch)] [(.int d)]))
        by_cases hc6 : d = 0
        · refine OGo.st (fun _ k => XS.ifNo X5.here hx rfl (hb hby d_prog_41_method_2_23) rfl (XT.i0_ne_f hc6) k) ?_
          show OGo p.tables e below Φ (T5.setTop (mkF m 26 #[.val (.ref a), .val (.int ch)] []))
          refine OGo.st (fun _ k => XS.iconst X5.here hx rfl (hb hby d_prog_41_method_2_26) k) ?_
          show OGo p.tables e below Φ (T5.setTop (mkF m 27 #[.val (.ref a), .val (.int ch)] [(.int (1 : Int32))]))
          refine OGo.st (fun _ k => XS.goto X5.here hx rfl (pc0 := 27) (pc' := 31) rfl (hb hby d_prog_41_method_2_27) (by decide) (by decide) k) ?_
          show OGo p.tables e below Φ (T5.setTop (mkF m 31 #[.val (.ref a), .val (.int ch)] [(.int (1 : Int32))]))
          refine OGo.fin X5 hlk (v := (some (.int (1 : Int32)))) (fun h => by rw [hret] at h; cases h) (by decide) (by decide) (fun fs hr => X5.ireturnOut hx hret rfl (by simp) (hb hby d_prog_41_method_2_31) hr) fun U eU hF => hΦ _ _ _ ?_ hF
          rw [eU, e5]
          show Q_rm4 Z a b d ch h0 n0 _ _ _
          exact ⟨by simp [own_bei, hc2, hc3, hc4, hc6], N0, rfl⟩
        · refine OGo.st (fun _ k => XS.ifYes X5.here hx rfl (pc0 := 23) (pc' := 30) rfl (hb hby d_prog_41_method_2_23) rfl (XT.i0_ne_t hc6) (by decide) (by decide) k) ?_
          show OGo p.tables e below Φ (T5.setTop (mkF m 30 #[.val (.ref a), .val (.int ch)] []))
          refine OGo.st (fun _ k => XS.iconst X5.here hx rfl (hb hby d_prog_41_method_2_30) k) ?_
          show OGo p.tables e below Φ (T5.setTop (mkF m 31 #[.val (.ref a), .val (.int ch)] [(.int (0 : Int32))]))
          refine OGo.fin X5 hlk (v := (some (.int (0 : Int32)))) (fun h => by rw [hret] at h; cases h) (by decide) (by decide) (fun fs hr => X5.ireturnOut hx hret rfl (by simp) (hb hby d_prog_41_method_2_31) hr) fun U eU hF => hΦ _ _ _ ?_ hF
          rw [eU, e5]
          show Q_rm4 Z a b d ch h0 n0 _ _ _
          exact ⟨by simp [own_bei, hc2, hc3, hc4, hc6], N0, rfl⟩
      · refine OGo.st (fun _ k => XS.icmpYes X1.here hx rfl (pc0 := 16) (pc' := 30) rfl (hb hby d_prog_41_method_2_16) rfl (XT.ii_ne_t hc4) (by decide) (by decide) k) ?_
        show OGo p.tables e below Φ (T1.setTop (mkF m 30 #[.val (.ref a), .val (.int ch)] []))
        refine OGo.st (fun _ k => XS.iconst X1.here hx rfl (hb hby d_prog_41_method_2_30) k) ?_
        show OGo p.tables e below Φ (T1.setTop (mkF m 31 #[.val (.ref a), .val (.int ch)] [(.int (0 : Int32))]))
        refine OGo.fin X1 hlk (v := (some (.int (0 : Int32)))) (fun h => by rw [hret] at h; cases h) (by decide) (by decide) (fun fs hr => X1.ireturnOut hx hret rfl (by simp) (hb hby d_prog_41_method_2_31) hr) fun U eU hF => hΦ _ _ _ ?_ hF
        rw [eU, e1]
        show Q_rm4 Z a b d ch h0 n0 _ _ _
        exact ⟨by simp [own_bei, hc2, hc3, hc4], N0, rfl⟩

theorem pd1 : parseMethodDescriptor "(II)C" = some ⟨[.int, .int], some .char⟩ := by decide +kernel
theorem pd2 : parseMethodDescriptor "(ZZ)V" = some ⟨[.boolean, .boolean], none⟩ := by decide +kernel
theorem pd3 : parseMethodDescriptor "(C)Z" = some ⟨[.char], some .boolean⟩ := by decide +kernel
theorem ef_rm0 (m : MethodId) (x0 : Int32) (x1 : Int32) : entryFrame m #[(.int x0), (.int x1)] maxLocals = mkF m 0 #[.val (.int x0), .val (.int x1), .unset, .unset, .unset, .unset, .unset, .unset, .unset] [] := by first | (simp [entryFrame, mkF, argsToLocals, Value.category, maxLocals]; done) | rfl
def Q_rm0 (Z : State) (f : Int32) (q : Int32) (h0 : Heap) (n0 : Nat) (v : Option Value) (h : Heap) (L : List Loc) : Prop := v = some (.int (1 : Int32)) ∧ Fr n0 L
set_option maxRecDepth 65536 in
set_option maxHeartbeats 40000000 in
theorem rm0 (l : Launch) (Z : State) (a0 : Array Value) (hw : ∀ d ∈ tables_1, d.before a0 Z = true) (ws : List Jvm.Cond) (f : Int32) (q : Int32) (h0 : Heap) (n0 : Nat) (Z0 : n0 ≤ h0.size)  :
    OCon l Z x code maxLocals ret ws room_1 #[(.int f), (.int q)] h0 (Q_rm0 Z f q h0 n0) := by
  refine OCon.of pn0 ?_
  intro p e s m below meth c s₁ Φ X0 hx hby hml hown hnm hret hlk hZ e0 hΦ
  have N0 := Fr.nil n0
  refine OGo.st (fun _ k => castTop (ef_rm0 m f q) k) ?_
  show OGo p.tables e below Φ (s₁.setTop (mkF m 0 #[.val (.int f), .val (.int q), .unset, .unset, .unset, .unset, .unset, .unset, .unset] []))
  refine OGo.st (fun _ k => XS.iloadN X0.here hx rfl (hb hby at_0) rfl k) ?_
  show OGo p.tables e below Φ (s₁.setTop (mkF m 1 #[.val (.int f), .val (.int q), .unset, .unset, .unset, .unset, .unset, .unset, .unset] [(.int f)]))
  refine OGo.st (fun _ k => XS.iconst X0.here hx rfl (hb hby at_1) k) ?_
  show OGo p.tables e below Φ (s₁.setTop (mkF m 2 #[.val (.int f), .val (.int q), .unset, .unset, .unset, .unset, .unset, .unset, .unset] [(.int (1 : Int32)), (.int f)]))
  refine OGo.st (fun _ k => XS.iand X0.here hx rfl (hb hby at_2) rfl k) ?_
  show OGo p.tables e below Φ (s₁.setTop (mkF m 3 #[.val (.int f), .val (.int q), .unset, .unset, .unset, .unset, .unset, .unset, .unset] [(.int (f &&& (1 : Int32)))]))
  by_cases hc1 : (f &&& (1 : Int32)) = 0
  · refine OGo.st (fun _ k => XS.ifYes X0.here hx rfl (pc0 := 3) (pc' := 10) rfl (hb hby at_3) rfl (XT.i0_eq_t hc1) (by decide) (by decide) k) ?_
    show OGo p.tables e below Φ (s₁.setTop (mkF m 10 #[.val (.int f), .val (.int q), .unset, .unset, .unset, .unset, .unset, .unset, .unset] []))
    refine OGo.st (fun _ k => XS.iconst X0.here hx rfl (hb hby at_10) k) ?_
    show OGo p.tables e below Φ (s₁.setTop (mkF m 11 #[.val (.int f), .val (.int q), .unset, .unset, .unset, .unset, .unset, .unset, .unset] [(.int (0 : Int32))]))
    refine OGo.st (fun _ k => XS.istoreN X0.here hx rfl (hb hby at_11) rfl (l' := #[.val (.int f), .val (.int q), .val (.int (0 : Int32)), .unset, .unset, .unset, .unset, .unset, .unset]) rfl k) ?_
    show OGo p.tables e below Φ (s₁.setTop (mkF m 12 #[.val (.int f), .val (.int q), .val (.int (0 : Int32)), .unset, .unset, .unset, .unset, .unset, .unset] []))
    refine OGo.st (fun _ k => XS.iloadN X0.here hx rfl (hb hby at_12) rfl k) ?_
    show OGo p.tables e below Φ (s₁.setTop (mkF m 13 #[.val (.int f), .val (.int q), .val (.int (0 : Int32)), .unset, .unset, .unset, .unset, .unset, .unset] [(.int f)]))
    refine OGo.st (fun _ k => XS.iconst X0.here hx rfl (hb hby at_13) k) ?_
    show OGo p.tables e below Φ (s₁.setTop (mkF m 14 #[.val (.int f), .val (.int q), .val (.int (0 : Int32)), .unset, .unset, .unset, .unset, .unset, .unset] [(.int (2 : Int32)), (.int f)]))
    refine OGo.st (fun _ k => XS.iand X0.here hx rfl (hb hby at_14) rfl k) ?_
    show OGo p.tables e below Φ (s₁.setTop (mkF m 15 #[.val (.int f), .val (.int q), .val (.int (0 : Int32)), .unset, .unset, .unset, .unset, .unset, .unset] [(.int (f &&& (2 : Int32)))]))
    by_cases hc2 : (f &&& (2 : Int32)) = 0
    · refine OGo.st (fun _ k => XS.ifYes X0.here hx rfl (pc0 := 15) (pc' := 22) rfl (hb hby at_15) rfl (XT.i0_eq_t hc2) (by decide) (by decide) k) ?_
      show OGo p.tables e below Φ (s₁.setTop (mkF m 22 #[.val (.int f), .val (.int q), .val (.int (0 : Int32)), .unset, .unset, .unset, .unset, .unset, .unset] []))
      refine OGo.st (fun _ k => XS.iconst X0.here hx rfl (hb hby at_22) k) ?_
      show OGo p.tables e below Φ (s₁.setTop (mkF m 23 #[.val (.int f), .val (.int q), .val (.int (0 : Int32)), .unset, .unset, .unset, .unset, .unset, .unset] [(.int (0 : Int32))]))
      refine OGo.st (fun _ k => XS.istoreN X0.here hx rfl (hb hby at_23) rfl (l' := #[.val (.int f), .val (.int q), .val (.int (0 : Int32)), .val (.int (0 : Int32)), .unset, .unset, .unset, .unset, .unset]) rfl k) ?_
      show OGo p.tables e below Φ (s₁.setTop (mkF m 24 #[.val (.int f), .val (.int q), .val (.int (0 : Int32)), .val (.int (0 : Int32)), .unset, .unset, .unset, .unset, .unset] []))
      refine OGo.st (fun _ k => XS.iloadN X0.here hx rfl (hb hby at_24) rfl k) ?_
      show OGo p.tables e below Φ (s₁.setTop (mkF m 25 #[.val (.int f), .val (.int q), .val (.int (0 : Int32)), .val (.int (0 : Int32)), .unset, .unset, .unset, .unset, .unset] [(.int f)]))
      refine OGo.st (fun _ k => XS.iconst X0.here hx rfl (hb hby at_25) k) ?_
      show OGo p.tables e below Φ (s₁.setTop (mkF m 26 #[.val (.int f), .val (.int q), .val (.int (0 : Int32)), .val (.int (0 : Int32)), .unset, .unset, .unset, .unset, .unset] [(.int (2 : Int32)), (.int f)]))
      refine OGo.st (fun _ k => XT.iushr X0.here hx rfl (hb hby at_26) rfl k) ?_
      show OGo p.tables e below Φ (s₁.setTop (mkF m 27 #[.val (.int f), .val (.int q), .val (.int (0 : Int32)), .val (.int (0 : Int32)), .unset, .unset, .unset, .unset, .unset] [(.int (XT.ushr f (2 : Int32)))]))
      refine OGo.st (fun _ k => XS.iconst X0.here hx rfl (hb hby at_27) k) ?_
      show OGo p.tables e below Φ (s₁.setTop (mkF m 28 #[.val (.int f), .val (.int q), .val (.int (0 : Int32)), .val (.int (0 : Int32)), .unset, .unset, .unset, .unset, .unset] [(.int (3 : Int32)), (.int (XT.ushr f (2 : Int32)))]))
      refine OGo.st (fun _ k => XS.iand X0.here hx rfl (hb hby at_28) rfl k) ?_
      show OGo p.tables e below Φ (s₁.setTop (mkF m 29 #[.val (.int f), .val (.int q), .val (.int (0 : Int32)), .val (.int (0 : Int32)), .unset, .unset, .unset, .unset, .unset] [(.int ((XT.ushr f (2 : Int32)) &&& (3 : Int32)))]))
      refine OGo.st (fun _ k => XS.istore X0.here hx rfl (hb hby at_29) rfl (l' := #[.val (.int f), .val (.int q), .val (.int (0 : Int32)), .val (.int (0 : Int32)), .val (.int ((XT.ushr f (2 : Int32)) &&& (3 : Int32))), .unset, .unset, .unset, .unset]) rfl k) ?_
      show OGo p.tables e below Φ (s₁.setTop (mkF m 31 #[.val (.int f), .val (.int q), .val (.int (0 : Int32)), .val (.int (0 : Int32)), .val (.int ((XT.ushr f (2 : Int32)) &&& (3 : Int32))), .unset, .unset, .unset, .unset] []))
      refine OGo.st (fun _ k => XS.iload X0.here hx rfl (hb hby at_31) rfl k) ?_
      show OGo p.tables e below Φ (s₁.setTop (mkF m 33 #[.val (.int f), .val (.int q), .val (.int (0 : Int32)), .val (.int (0 : Int32)), .val (.int ((XT.ushr f (2 : Int32)) &&& (3 : Int32))), .unset, .unset, .unset, .unset] [(.int ((XT.ushr f (2 : Int32)) &&& (3 : Int32)))]))
      refine OGo.st (fun _ k => XS.iloadN X0.here hx rfl (hb hby at_33) rfl k) ?_
      show OGo p.tables e below Φ (s₁.setTop (mkF m 34 #[.val (.int f), .val (.int q), .val (.int (0 : Int32)), .val (.int (0 : Int32)), .val (.int ((XT.ushr f (2 : Int32)) &&& (3 : Int32))), .unset, .unset, .unset, .unset] [(.int q), (.int ((XT.ushr f (2 : Int32)) &&& (3 : Int32)))]))
      obtain ⟨_, T3, L3, X3, hQ3, st3⟩ := own_callSt X0 hx hZ hown (ow0 hw) (ow1 hw) (ow2 hw) (ow3 hw) (by decide) (rm1 l Z a0 hw [] ((XT.ushr f (2 : Int32)) &&& (3 : Int32)) q h0 n0 Z0 ) e0 (W := 0) (by decide) (by decide) (by decide) (by decide) (pc := 34) (ls := #[.val (.int f), .val (.int q), .val (.int (0 : Int32)), .val (.int (0 : Int32)), .val (.int ((XT.ushr f (2 : Int32)) &&& (3 : Int32))), .unset, .unset, .unset, .unset]) (stk := [(.int q), (.int ((XT.ushr f (2 : Int32)) &&& (3 : Int32)))]) (by rw [hml]; rfl) (argsL := [(.int ((XT.ushr f (2 : Int32)) &&& (3 : Int32))), (.int q)]) (rest := []) (lenOf pd1 rfl) rfl rfl (Nat.le_of_eq rfl) (hb hby at_34)
      obtain ⟨rfl, Nq3, e3⟩ := hQ3
      have N3 := Fr.app N0 Nq3
      refine OGo.st st3 ?_
      show OGo p.tables e below Φ (T3.setTop (mkF m 37 #[.val (.int f), .val (.int q), .val (.int (0 : Int32)), .val (.int (0 : Int32)), .val (.int ((XT.ushr f (2 : Int32)) &&& (3 : Int32))), .unset, .unset, .unset, .unset] [(.int (own_pick ((XT.ushr f (2 : Int32)) &&& (3 : Int32)) q))]))
      refine OGo.st (fun _ k => XS.istore X3.here hx rfl (hb hby at_37) rfl (l' := #[.val (.int f), .val (.int q), .val (.int (0 : Int32)), .val (.int (0 : Int32)), .val (.int ((XT.ushr f (2 : Int32)) &&& (3 : Int32))), .val (.int (own_pick ((XT.ushr f (2 : Int32)) &&& (3 : Int32)) q)), .unset, .unset, .unset]) rfl k) ?_
      show OGo p.tables e below Φ (T3.setTop (mkF m 39 #[.val (.int f), .val (.int q), .val (.int (0 : Int32)), .val (.int (0 : Int32)), .val (.int ((XT.ushr f (2 : Int32)) &&& (3 : Int32))), .val (.int (own_pick ((XT.ushr f (2 : Int32)) &&& (3 : Int32)) q)), .unset, .unset, .unset] []))
      obtain ⟨T4, h4, X4, e4, E4, A4, D4, U4, st4⟩ := newO X3 hx hZ hown (ow4 hw) (ow5 hw) (ow6 hw) e3 (g := (mkF m 39 #[.val (.int f), .val (.int q), .val (.int (0 : Int32)), .val (.int (0 : Int32)), .val (.int ((XT.ushr f (2 : Int32)) &&& (3 : Int32))), .val (.int (own_pick ((XT.ushr f (2 : Int32)) &&& (3 : Int32)) q)), .unset, .unset, .unset] [])) rfl (hb hby at_39) (by decide) (by decide)
      obtain ⟨b4, g4⟩ : ∃ z, z = h0.size := ⟨_, rfl⟩
      rw [← g4] at A4 D4 st4 U4
      have gb4 : n0 ≤ b4 := Nat.le_trans Z0 (Nat.le_of_eq g4.symm)
      have Zs4 : n0 ≤ h4.size := Nat.le_trans Z0 E4.1
      have F4_19 : Fld Z h4 b4 "com/example/orderly_migration/orderlymigration/core/Quoting" "backslashEscapes" "Z" (.int (0 : Int32)) := D4 (Or.inr (ow19 hw)) (ty := .boolean) (by decide)
      have F4_21 : Fld Z h4 b4 "com/example/orderly_migration/orderlymigration/core/Quoting" "doubleQuotedNames" "Z" (.int (0 : Int32)) := D4 (Or.inr (ow21 hw)) (ty := .boolean) (by decide)
      refine OGo.st (st4) ?_
      show OGo p.tables e below Φ (T4.setTop (mkF m 42 #[.val (.int f), .val (.int q), .val (.int (0 : Int32)), .val (.int (0 : Int32)), .val (.int ((XT.ushr f (2 : Int32)) &&& (3 : Int32))), .val (.int (own_pick ((XT.ushr f (2 : Int32)) &&& (3 : Int32)) q)), .unset, .unset, .unset] [(.ref b4)]))
      refine OGo.st (fun _ k => XS.dup X4.here hx rfl (hb hby at_42) rfl rfl k) ?_
      show OGo p.tables e below Φ (T4.setTop (mkF m 43 #[.val (.int f), .val (.int q), .val (.int (0 : Int32)), .val (.int (0 : Int32)), .val (.int ((XT.ushr f (2 : Int32)) &&& (3 : Int32))), .val (.int (own_pick ((XT.ushr f (2 : Int32)) &&& (3 : Int32)) q)), .unset, .unset, .unset] [(.ref b4), (.ref b4)]))
      refine OGo.st (fun _ k => XS.iloadN X4.here hx rfl (hb hby at_43) rfl k) ?_
      show OGo p.tables e below Φ (T4.setTop (mkF m 44 #[.val (.int f), .val (.int q), .val (.int (0 : Int32)), .val (.int (0 : Int32)), .val (.int ((XT.ushr f (2 : Int32)) &&& (3 : Int32))), .val (.int (own_pick ((XT.ushr f (2 : Int32)) &&& (3 : Int32)) q)), .unset, .unset, .unset] [(.int (0 : Int32)), (.ref b4), (.ref b4)]))
      refine OGo.st (fun _ k => XS.iloadN X4.here hx rfl (hb hby at_44) rfl k) ?_
      show OGo p.tables e below Φ (T4.setTop (mkF m 45 #[.val (.int f), .val (.int q), .val (.int (0 : Int32)), .val (.int (0 : Int32)), .val (.int ((XT.ushr f (2 : Int32)) &&& (3 : Int32))), .val (.int (own_pick ((XT.ushr f (2 : Int32)) &&& (3 : Int32)) q)), .unset, .unset, .unset] [(.int (0 : Int32)), (.int (0 : Int32)), (.ref b4), (.ref b4)]))
      obtain ⟨_, T5, L5, X5, hQ5, st5⟩ := own_callSp X4 hx hZ rfl hown (ow7 hw) (ow8 hw) (ow6 hw) (ow9 hw) (by decide) (rm3 l Z a0 hw [] b4 (0 : Int32) (0 : Int32) (.int (0 : Int32)) (.int (0 : Int32)) h4 n0 Zs4 A4 gb4 F4_19 F4_21 (by decide) (by decide)) e4 (W := 1) (by decide) (by decide) (by decide) (by decide) (pc := 45) (ls := #[.val (.int f), .val (.int q), .val (.int (0 : Int32)), .val (.int (0 : Int32)), .val (.int ((XT.ushr f (2 : Int32)) &&& (3 : Int32))), .val (.int (own_pick ((XT.ushr f (2 : Int32)) &&& (3 : Int32)) q)), .unset, .unset, .unset]) (stk := [(.int (0 : Int32)), (.int (0 : Int32)), (.ref b4), (.ref b4)]) (by rw [hml]; rfl) (a := b4) (argsL := [(.int (0 : Int32)), (.int (0 : Int32))]) (rest := [(.ref b4)]) (lenOf pd2 rfl) rfl rfl (Nat.le_of_eq rfl) (hb hby at_45)
      obtain ⟨rfl, Nq5, Kq5, Eq5, Fq5_0, Fq5_1⟩ := hQ5
      have N5 := Fr.app N3 Nq5
      have Zs5 : n0 ≤ T5.heap.size := Nat.le_trans Zs4 Kq5.1
      refine OGo.st st5 ?_
      show OGo p.tables e below Φ (T5.setTop (mkF m 48 #[.val (.int f), .val (.int q), .val (.int (0 : Int32)), .val (.int (0 : Int32)), .val (.int ((XT.ushr f (2 : Int32)) &&& (3 : Int32))), .val (.int (own_pick ((XT.ushr f (2 : Int32)) &&& (3 : Int32)) q)), .unset, .unset, .unset] [(.ref b4)]))
      refine OGo.st (fun _ k => XS.astore X5.here hx rfl (hb hby at_48) rfl rfl (l' := #[.val (.int f), .val (.int q), .val (.int (0 : Int32)), .val (.int (0 : Int32)), .val (.int ((XT.ushr f (2 : Int32)) &&& (3 : Int32))), .val (.int (own_pick ((XT.ushr f (2 : Int32)) &&& (3 : Int32)) q)), .val (.ref b4), .unset, .unset]) rfl k) ?_
      show OGo p.tables e below Φ (T5.setTop (mkF m 50 #[.val (.int f), .val (.int q), .val (.int (0 : Int32)), .val (.int (0 : Int32)), .val (.int ((XT.ushr f (2 : Int32)) &&& (3 : Int32))), .val (.int (own_pick ((XT.ushr f (2 : Int32)) &&& (3 : Int32)) q)), .val (.ref b4), .unset, .unset] []))
      refine OGo.st (fun _ k => XS.aload X5.here hx rfl (hb hby at_50) rfl rfl k) ?_
      show OGo p.tables e below Φ (T5.setTop (mkF m 52 #[.val (.int f), .val (.int q), .val (.int (0 : Int32)), .val (.int (0 : Int32)), .val (.int ((XT.ushr f (2 : Int32)) &&& (3 : Int32))), .val (.int (own_pick ((XT.ushr f (2 : Int32)) &&& (3 : Int32)) q)), .val (.ref b4), .unset, .unset] [(.ref b4)]))
      refine OGo.st (fun _ k => XS.iload X5.here hx rfl (hb hby at_52) rfl k) ?_
      show OGo p.tables e below Φ (T5.setTop (mkF m 54 #[.val (.int f), .val (.int q), .val (.int (0 : Int32)), .val (.int (0 : Int32)), .val (.int ((XT.ushr f (2 : Int32)) &&& (3 : Int32))), .val (.int (own_pick ((XT.ushr f (2 : Int32)) &&& (3 : Int32)) q)), .val (.ref b4), .unset, .unset] [(.int (own_pick ((XT.ushr f (2 : Int32)) &&& (3 : Int32)) q)), (.ref b4)]))
      obtain ⟨_, T6, L6, X6, hQ6, st6⟩ := own_callVi X5 hx hZ hown (ow22 hw) (ow23 hw) (notFace_of_selects (args := #[]) (mvT hZ (ow25 hw))) (ow25 hw) (ow24 hw) (ow6 hw) (ow26 hw) (by decide) (rm4 l Z a0 hw [] b4 (0 : Int32) (0 : Int32) (own_pick ((XT.ushr f (2 : Int32)) &&& (3 : Int32)) q) T5.heap n0 Zs5 Fq5_0 Fq5_1) rfl (W := 0) (by decide) (by decide) (by decide) (by decide) Eq5 (pc := 54) (ls := #[.val (.int f), .val (.int q), .val (.int (0 : Int32)), .val (.int (0 : Int32)), .val (.int ((XT.ushr f (2 : Int32)) &&& (3 : Int32))), .val (.int (own_pick ((XT.ushr f (2 : Int32)) &&& (3 : Int32)) q)), .val (.ref b4), .unset, .unset]) (stk := [(.int (own_pick ((XT.ushr f (2 : Int32)) &&& (3 : Int32)) q)), (.ref b4)]) (by rw [hml]; rfl) (argsL := [(.int (own_pick ((XT.ushr f (2 : Int32)) &&& (3 : Int32)) q))]) (rest := []) (lenOf pd3 rfl) rfl rfl (Nat.le_of_eq rfl) (hb hby at_54)
      obtain ⟨rfl, Nq6, e6⟩ := hQ6
      have N6 := Fr.app N5 Nq6
      refine OGo.st st6 ?_
      show OGo p.tables e below Φ (T6.setTop (mkF m 57 #[.val (.int f), .val (.int q), .val (.int (0 : Int32)), .val (.int (0 : Int32)), .val (.int ((XT.ushr f (2 : Int32)) &&& (3 : Int32))), .val (.int (own_pick ((XT.ushr f (2 : Int32)) &&& (3 : Int32)) q)), .val (.ref b4), .unset, .unset] [(.int (own_bei (0 : Int32) (0 : Int32) (own_pick ((XT.ushr f (2 : Int32)) &&& (3 : Int32)) q)))]))
      refine OGo.st (fun _ k => XS.istore X6.here hx rfl (hb hby at_57) rfl (l' := #[.val (.int f), .val (.int q), .val (.int (0 : Int32)), .val (.int (0 : Int32)), .val (.int ((XT.ushr f (2 : Int32)) &&& (3 : Int32))), .val (.int (own_pick ((XT.ushr f (2 : Int32)) &&& (3 : Int32)) q)), .val (.ref b4), .val (.int (own_bei (0 : Int32) (0 : Int32) (own_pick ((XT.ushr f (2 : Int32)) &&& (3 : Int32)) q))), .unset]) rfl k) ?_
      show OGo p.tables e below Φ (T6.setTop (mkF m 59 #[.val (.int f), .val (.int q), .val (.int (0 : Int32)), .val (.int (0 : Int32)), .val (.int ((XT.ushr f (2 : Int32)) &&& (3 : Int32))), .val (.int (own_pick ((XT.ushr f (2 : Int32)) &&& (3 : Int32)) q)), .val (.ref b4), .val (.int (own_bei (0 : Int32) (0 : Int32) (own_pick ((XT.ushr f (2 : Int32)) &&& (3 : Int32)) q))), .unset] []))
      refine OGo.st (fun _ k => XS.iloadN X6.here hx rfl (hb hby at_59) rfl k) ?_
      show OGo p.tables e below Φ (T6.setTop (mkF m 60 #[.val (.int f), .val (.int q), .val (.int (0 : Int32)), .val (.int (0 : Int32)), .val (.int ((XT.ushr f (2 : Int32)) &&& (3 : Int32))), .val (.int (own_pick ((XT.ushr f (2 : Int32)) &&& (3 : Int32)) q)), .val (.ref b4), .val (.int (own_bei (0 : Int32) (0 : Int32) (own_pick ((XT.ushr f (2 : Int32)) &&& (3 : Int32)) q))), .unset] [(.int (0 : Int32))]))
      refine OGo.st (fun _ k => XS.ifNo X6.here hx rfl (hb hby at_60) rfl (XT.i0_ne_f (by decide)) k) ?_
      show OGo p.tables e below Φ (T6.setTop (mkF m 63 #[.val (.int f), .val (.int q), .val (.int (0 : Int32)), .val (.int (0 : Int32)), .val (.int ((XT.ushr f (2 : Int32)) &&& (3 : Int32))), .val (.int (own_pick ((XT.ushr f (2 : Int32)) &&& (3 : Int32)) q)), .val (.ref b4), .val (.int (own_bei (0 : Int32) (0 : Int32) (own_pick ((XT.ushr f (2 : Int32)) &&& (3 : Int32)) q))), .unset] []))
      refine OGo.st (fun _ k => XS.iconst X6.here hx rfl (hb hby at_63) k) ?_
      show OGo p.tables e below Φ (T6.setTop (mkF m 64 #[.val (.int f), .val (.int q), .val (.int (0 : Int32)), .val (.int (0 : Int32)), .val (.int ((XT.ushr f (2 : Int32)) &&& (3 : Int32))), .val (.int (own_pick ((XT.ushr f (2 : Int32)) &&& (3 : Int32)) q)), .val (.ref b4), .val (.int (own_bei (0 : Int32) (0 : Int32) (own_pick ((XT.ushr f (2 : Int32)) &&& (3 : Int32)) q))), .unset] [(.int (0 : Int32))]))
      refine OGo.st (fun _ k => XS.istore X6.here hx rfl (hb hby at_64) rfl (l' := #[.val (.int f), .val (.int q), .val (.int (0 : Int32)), .val (.int (0 : Int32)), .val (.int ((XT.ushr f (2 : Int32)) &&& (3 : Int32))), .val (.int (own_pick ((XT.ushr f (2 : Int32)) &&& (3 : Int32)) q)), .val (.ref b4), .val (.int (own_bei (0 : Int32) (0 : Int32) (own_pick ((XT.ushr f (2 : Int32)) &&& (3 : Int32)) q))), .val (.int (0 : Int32))]) rfl k) ?_
      show OGo p.tables e below Φ (T6.setTop (mkF m 66 #[.val (.int f), .val (.int q), .val (.int (0 : Int32)), .val (.int (0 : Int32)), .val (.int ((XT.ushr f (2 : Int32)) &&& (3 : Int32))), .val (.int (own_pick ((XT.ushr f (2 : Int32)) &&& (3 : Int32)) q)), .val (.ref b4), .val (.int (own_bei (0 : Int32) (0 : Int32) (own_pick ((XT.ushr f (2 : Int32)) &&& (3 : Int32)) q))), .val (.int (0 : Int32))] []))
      refine OGo.st (fun _ k => XS.goto X6.here hx rfl (pc0 := 66) (pc' := 106) rfl (hb hby at_66) (by decide) (by decide) k) ?_
      show OGo p.tables e below Φ (T6.setTop (mkF m 106 #[.val (.int f), .val (.int q), .val (.int (0 : Int32)), .val (.int (0 : Int32)), .val (.int ((XT.ushr f (2 : Int32)) &&& (3 : Int32))), .val (.int (own_pick ((XT.ushr f (2 : Int32)) &&& (3 : Int32)) q)), .val (.ref b4), .val (.int (own_bei (0 : Int32) (0 : Int32) (own_pick ((XT.ushr f (2 : Int32)) &&& (3 : Int32)) q))), .val (.int (0 : Int32))] []))
      refine OGo.st (fun _ k => XS.iload X6.here hx rfl (hb hby at_106) rfl k) ?_
      show OGo p.tables e below Φ (T6.setTop (mkF m 108 #[.val (.int f), .val (.int q), .val (.int (0 : Int32)), .val (.int (0 : Int32)), .val (.int ((XT.ushr f (2 : Int32)) &&& (3 : Int32))), .val (.int (own_pick ((XT.ushr f (2 : Int32)) &&& (3 : Int32)) q)), .val (.ref b4), .val (.int (own_bei (0 : Int32) (0 : Int32) (own_pick ((XT.ushr f (2 : Int32)) &&& (3 : Int32)) q))), .val (.int (0 : Int32))] [(.int (own_bei (0 : Int32) (0 : Int32) (own_pick ((XT.ushr f (2 : Int32)) &&& (3 : Int32)) q)))]))
      refine OGo.st (fun _ k => XS.iload X6.here hx rfl (hb hby at_108) rfl k) ?_
      show OGo p.tables e below Φ (T6.setTop (mkF m 110 #[.val (.int f), .val (.int q), .val (.int (0 : Int32)), .val (.int (0 : Int32)), .val (.int ((XT.ushr f (2 : Int32)) &&& (3 : Int32))), .val (.int (own_pick ((XT.ushr f (2 : Int32)) &&& (3 : Int32)) q)), .val (.ref b4), .val (.int (own_bei (0 : Int32) (0 : Int32) (own_pick ((XT.ushr f (2 : Int32)) &&& (3 : Int32)) q))), .val (.int (0 : Int32))] [(.int (0 : Int32)), (.int (own_bei (0 : Int32) (0 : Int32) (own_pick ((XT.ushr f (2 : Int32)) &&& (3 : Int32)) q)))]))
      by_cases hc7 : (own_bei (0 : Int32) (0 : Int32) (own_pick ((XT.ushr f (2 : Int32)) &&& (3 : Int32)) q)) = (0 : Int32)
      · refine OGo.st (fun _ k => XS.icmpNo X6.here hx rfl (hb hby at_110) rfl (XT.ii_ne_f hc7) k) ?_
        show OGo p.tables e below Φ (T6.setTop (mkF m 113 #[.val (.int f), .val (.int q), .val (.int (0 : Int32)), .val (.int (0 : Int32)), .val (.int ((XT.ushr f (2 : Int32)) &&& (3 : Int32))), .val (.int (own_pick ((XT.ushr f (2 : Int32)) &&& (3 : Int32)) q)), .val (.ref b4), .val (.int (own_bei (0 : Int32) (0 : Int32) (own_pick ((XT.ushr f (2 : Int32)) &&& (3 : Int32)) q))), .val (.int (0 : Int32))] []))
        refine OGo.st (fun _ k => XS.iconst X6.here hx rfl (hb hby at_113) k) ?_
        show OGo p.tables e below Φ (T6.setTop (mkF m 114 #[.val (.int f), .val (.int q), .val (.int (0 : Int32)), .val (.int (0 : Int32)), .val (.int ((XT.ushr f (2 : Int32)) &&& (3 : Int32))), .val (.int (own_pick ((XT.ushr f (2 : Int32)) &&& (3 : Int32)) q)), .val (.ref b4), .val (.int (own_bei (0 : Int32) (0 : Int32) (own_pick ((XT.ushr f (2 : Int32)) &&& (3 : Int32)) q))), .val (.int (0 : Int32))] [(.int (1 : Int32))]))
        refine OGo.st (fun _ k => XS.goto X6.here hx rfl (pc0 := 114) (pc' := 118) rfl (hb hby at_114) (by decide) (by decide) k) ?_
        show OGo p.tables e below Φ (T6.setTop (mkF m 118 #[.val (.int f), .val (.int q), .val (.int (0 : Int32)), .val (.int (0 : Int32)), .val (.int ((XT.ushr f (2 : Int32)) &&& (3 : Int32))), .val (.int (own_pick ((XT.ushr f (2 : Int32)) &&& (3 : Int32)) q)), .val (.ref b4), .val (.int (own_bei (0 : Int32) (0 : Int32) (own_pick ((XT.ushr f (2 : Int32)) &&& (3 : Int32)) q))), .val (.int (0 : Int32))] [(.int (1 : Int32))]))
        refine OGo.fin X6 hlk (v := (some (.int (1 : Int32)))) (fun h => by rw [hret] at h; cases h) (by decide) (by decide) (fun fs hr => X6.ireturnOut hx hret rfl (by simp) (hb hby at_118) hr) fun U eU hF => hΦ _ _ _ ?_ hF
        rw [eU, e6]
        show Q_rm0 Z f q h0 n0 _ _ _
        exact ⟨rfl, N6⟩
      · refine OGo.st (fun _ k => XS.icmpYes X6.here hx rfl (pc0 := 110) (pc' := 117) rfl (hb hby at_110) rfl (XT.ii_ne_t hc7) (by decide) (by decide) k) ?_
        show OGo p.tables e below Φ (T6.setTop (mkF m 117 #[.val (.int f), .val (.int q), .val (.int (0 : Int32)), .val (.int (0 : Int32)), .val (.int ((XT.ushr f (2 : Int32)) &&& (3 : Int32))), .val (.int (own_pick ((XT.ushr f (2 : Int32)) &&& (3 : Int32)) q)), .val (.ref b4), .val (.int (own_bei (0 : Int32) (0 : Int32) (own_pick ((XT.ushr f (2 : Int32)) &&& (3 : Int32)) q))), .val (.int (0 : Int32))] []))
        refine OGo.st (fun _ k => XS.iconst X6.here hx rfl (hb hby at_117) k) ?_
        show OGo p.tables e below Φ (T6.setTop (mkF m 118 #[.val (.int f), .val (.int q), .val (.int (0 : Int32)), .val (.int (0 : Int32)), .val (.int ((XT.ushr f (2 : Int32)) &&& (3 : Int32))), .val (.int (own_pick ((XT.ushr f (2 : Int32)) &&& (3 : Int32)) q)), .val (.ref b4), .val (.int (own_bei (0 : Int32) (0 : Int32) (own_pick ((XT.ushr f (2 : Int32)) &&& (3 : Int32)) q))), .val (.int (0 : Int32))] [(.int (0 : Int32))]))
        exact absurd (by simp [own_bei, hc1, hc2]) hc7
    · refine OGo.st (fun _ k => XS.ifNo X0.here hx rfl (hb hby at_15) rfl (XT.i0_eq_f hc2) k) ?_
      show OGo p.tables e below Φ (s₁.setTop (mkF m 18 #[.val (.int f), .val (.int q), .val (.int (0 : Int32)), .unset, .unset, .unset, .unset, .unset, .unset] []))
      refine OGo.st (fun _ k => XS.iconst X0.here hx rfl (hb hby at_18) k) ?_
      show OGo p.tables e below Φ (s₁.setTop (mkF m 19 #[.val (.int f), .val (.int q), .val (.int (0 : Int32)), .unset, .unset, .unset, .unset, .unset, .unset] [(.int (1 : Int32))]))
      refine OGo.st (fun _ k => XS.goto X0.here hx rfl (pc0 := 19) (pc' := 23) rfl (hb hby at_19) (by decide) (by decide) k) ?_
      show OGo p.tables e below Φ (s₁.setTop (mkF m 23 #[.val (.int f), .val (.int q), .val (.int (0 : Int32)), .unset, .unset, .unset, .unset, .unset, .unset] [(.int (1 : Int32))]))
      refine OGo.st (fun _ k => XS.istoreN X0.here hx rfl (hb hby at_23) rfl (l' := #[.val (.int f), .val (.int q), .val (.int (0 : Int32)), .val (.int (1 : Int32)), .unset, .unset, .unset, .unset, .unset]) rfl k) ?_
      show OGo p.tables e below Φ (s₁.setTop (mkF m 24 #[.val (.int f), .val (.int q), .val (.int (0 : Int32)), .val (.int (1 : Int32)), .unset, .unset, .unset, .unset, .unset] []))
      refine OGo.st (fun _ k => XS.iloadN X0.here hx rfl (hb hby at_24) rfl k) ?_
      show OGo p.tables e below Φ (s₁.setTop (mkF m 25 #[.val (.int f), .val (.int q), .val (.int (0 : Int32)), .val (.int (1 : Int32)), .unset, .unset, .unset, .unset, .unset] [(.int f)]))
      refine OGo.st (fun _ k => XS.iconst X0.here hx rfl (hb hby at_25) k) ?_
      show OGo p.tables e below Φ (s₁.setTop (mkF m 26 #[.val (.int f), .val (.int q), .val (.int (0 : Int32)), .val (.int (1 : Int32)), .unset, .unset, .unset, .unset, .unset] [(.int (2 : Int32)), (.int f)]))
      refine OGo.st (fun _ k => XT.iushr X0.here hx rfl (hb hby at_26) rfl k) ?_
      show OGo p.tables e below Φ (s₁.setTop (mkF m 27 #[.val (.int f), .val (.int q), .val (.int (0 : Int32)), .val (.int (1 : Int32)), .unset, .unset, .unset, .unset, .unset] [(.int (XT.ushr f (2 : Int32)))]))
      refine OGo.st (fun _ k => XS.iconst X0.here hx rfl (hb hby at_27) k) ?_
      show OGo p.tables e below Φ (s₁.setTop (mkF m 28 #[.val (.int f), .val (.int q), .val (.int (0 : Int32)), .val (.int (1 : Int32)), .unset, .unset, .unset, .unset, .unset] [(.int (3 : Int32)), (.int (XT.ushr f (2 : Int32)))]))
      refine OGo.st (fun _ k => XS.iand X0.here hx rfl (hb hby at_28) rfl k) ?_
      show OGo p.tables e below Φ (s₁.setTop (mkF m 29 #[.val (.int f), .val (.int q), .val (.int (0 : Int32)), .val (.int (1 : Int32)), .unset, .unset, .unset, .unset, .unset] [(.int ((XT.ushr f (2 : Int32)) &&& (3 : Int32)))]))
      refine OGo.st (fun _ k => XS.istore X0.here hx rfl (hb hby at_29) rfl (l' := #[.val (.int f), .val (.int q), .val (.int (0 : Int32)), .val (.int (1 : Int32)), .val (.int ((XT.ushr f (2 : Int32)) &&& (3 : Int32))), .unset, .unset, .unset, .unset]) rfl k) ?_
      show OGo p.tables e below Φ (s₁.setTop (mkF m 31 #[.val (.int f), .val (.int q), .val (.int (0 : Int32)), .val (.int (1 : Int32)), .val (.int ((XT.ushr f (2 : Int32)) &&& (3 : Int32))), .unset, .unset, .unset, .unset] []))
      refine OGo.st (fun _ k => XS.iload X0.here hx rfl (hb hby at_31) rfl k) ?_
      show OGo p.tables e below Φ (s₁.setTop (mkF m 33 #[.val (.int f), .val (.int q), .val (.int (0 : Int32)), .val (.int (1 : Int32)), .val (.int ((XT.ushr f (2 : Int32)) &&& (3 : Int32))), .unset, .unset, .unset, .unset] [(.int ((XT.ushr f (2 : Int32)) &&& (3 : Int32)))]))
      refine OGo.st (fun _ k => XS.iloadN X0.here hx rfl (hb hby at_33) rfl k) ?_
      show OGo p.tables e below Φ (s₁.setTop (mkF m 34 #[.val (.int f), .val (.int q), .val (.int (0 : Int32)), .val (.int (1 : Int32)), .val (.int ((XT.ushr f (2 : Int32)) &&& (3 : Int32))), .unset, .unset, .unset, .unset] [(.int q), (.int ((XT.ushr f (2 : Int32)) &&& (3 : Int32)))]))
      obtain ⟨_, T8, L8, X8, hQ8, st8⟩ := own_callSt X0 hx hZ hown (ow0 hw) (ow1 hw) (ow2 hw) (ow3 hw) (by decide) (rm1 l Z a0 hw [] ((XT.ushr f (2 : Int32)) &&& (3 : Int32)) q h0 n0 Z0 ) e0 (W := 0) (by decide) (by decide) (by decide) (by decide) (pc := 34) (ls := #[.val (.int f), .val (.int q), .val (.int (0 : Int32)), .val (.int (1 : Int32)), .val (.int ((XT.ushr f (2 : Int32)) &&& (3 : Int32))), .unset, .unset, .unset, .unset]) (stk := [(.int q), (.int ((XT.ushr f (2 : Int32)) &&& (3 : Int32)))]) (by rw [hml]; rfl) (argsL := [(.int ((XT.ushr f (2 : Int32)) &&& (3 : Int32))), (.int q)]) (rest := []) (lenOf pd1 rfl) rfl rfl (Nat.le_of_eq rfl) (hb hby at_34)
      obtain ⟨rfl, Nq8, e8⟩ := hQ8
      have N8 := Fr.app N0 Nq8
      refine OGo.st st8 ?_
      show OGo p.tables e below Φ (T8.setTop (mkF m 37 #[.val (.int f), .val (.int q), .val (.int (0 : Int32)), .val (.int (1 : Int32)), .val (.int ((XT.ushr f (2 : Int32)) &&& (3 : Int32))), .unset, .unset, .unset, .unset] [(.int (own_pick ((XT.ushr f (2 : Int32)) &&& (3 : Int32)) q))]))
      refine OGo.st (fun _ k => XS.istore X8.here hx rfl (hb hby at_37) rfl (l' := #[.val (.int f), .val (.int q), .val (.int (0 : Int32)), .val (.int (1 : Int32)), .val (.int ((XT.ushr f (2 : Int32)) &&& (3 : Int32))), .val (.int (own_pick ((XT.ushr f (2 : Int32)) &&& (3 : Int32)) q)), .unset, .unset, .unset]) rfl k) ?_
      show OGo p.tables e below Φ (T8.setTop (mkF m 39 #[.val (.int f), .val (.int q), .val (.int (0 : Int32)), .val (.int (1 : Int32)), .val (.int ((XT.ushr f (2 : Int32)) &&& (3 : Int32))), .val (.int (own_pick ((XT.ushr f (2 : Int32)) &&& (3 : Int32)) q)), .unset, .unset, .unset] []))
      obtain ⟨T9, h9, X9, e9, E9, A9, D9, U9, st9⟩ := newO X8 hx hZ hown (ow4 hw) (ow5 hw) (ow6 hw) e8 (g := (mkF m 39 #[.val (.int f), .val (.int q), .val (.int (0 : Int32)), .val (.int (1 : Int32)), .val (.int ((XT.ushr f (2 : Int32)) &&& (3 : Int32))), .val (.int (own_pick ((XT.ushr f (2 : Int32)) &&& (3 : Int32)) q)), .unset, .unset, .unset] [])) rfl (hb hby at_39) (by decide) (by decide)
      obtain ⟨b9, g9⟩ : ∃ z, z = h0.size := ⟨_, rfl⟩
      rw [← g9] at A9 D9 st9 U9
      have gb9 : n0 ≤ b9 := Nat.le_trans Z0 (Nat.le_of_eq g9.symm)
      have Zs9 : n0 ≤ h9.size := Nat.le_trans Z0 E9.1
      have F9_19 : Fld Z h9 b9 "com/example/orderly_migration/orderlymigration/core/Quoting" "backslashEscapes" "Z" (.int (0 : Int32)) := D9 (Or.inr (ow19 hw)) (ty := .boolean) (by decide)
      have F9_21 : Fld Z h9 b9 "com/example/orderly_migration/orderlymigration/core/Quoting" "doubleQuotedNames" "Z" (.int (0 : Int32)) := D9 (Or.inr (ow21 hw)) (ty := .boolean) (by decide)
      refine OGo.st (st9) ?_
      show OGo p.tables e below Φ (T9.setTop (mkF m 42 #[.val (.int f), .val (.int q), .val (.int (0 : Int32)), .val (.int (1 : Int32)), .val (.int ((XT.ushr f (2 : Int32)) &&& (3 : Int32))), .val (.int (own_pick ((XT.ushr f (2 : Int32)) &&& (3 : Int32)) q)), .unset, .unset, .unset] [(.ref b9)]))
      refine OGo.st (fun _ k => XS.dup X9.here hx rfl (hb hby at_42) rfl rfl k) ?_
      show OGo p.tables e below Φ (T9.setTop (mkF m 43 #[.val (.int f), .val (.int q), .val (.int (0 : Int32)), .val (.int (1 : Int32)), .val (.int ((XT.ushr f (2 : Int32)) &&& (3 : Int32))), .val (.int (own_pick ((XT.ushr f (2 : Int32)) &&& (3 : Int32)) q)), .unset, .unset, .unset] [(.ref b9), (.ref b9)]))
      refine OGo.st (fun _ k => XS.iloadN X9.here hx rfl (hb hby at_43) rfl k) ?_
      show OGo p.tables e below Φ (T9.setTop (mkF m 44 #[.val (.int f), .val (.int q), .val (.int (0 : Int32)), .val (.int (1 : Int32)), .val (.int ((XT.ushr f (2 : Int32)) &&& (3 : Int32))), .val (.int (own_pick ((XT.ushr f (2 : Int32)) &&& (3 : Int32)) q)), .unset, .unset, .unset] [(.int (0 : Int32)), (.ref b9), (.ref b9)]))
      refine OGo.st (fun _ k => XS.iloadN X9.here hx rfl (hb hby at_44) rfl k) ?_
      show OGo p.tables e below Φ (T9.setTop (mkF m 45 #[.val (.int f), .val (.int q), .val (.int (0 : Int32)), .val (.int (1 : Int32)), .val (.int ((XT.ushr f (2 : Int32)) &&& (3 : Int32))), .val (.int (own_pick ((XT.ushr f (2 : Int32)) &&& (3 : Int32)) q)), .unset, .unset, .unset] [(.int (1 : Int32)), (.int (0 : Int32)), (.ref b9), (.ref b9)]))
      obtain ⟨_, T10, L10, X10, hQ10, st10⟩ := own_callSp X9 hx hZ rfl hown (ow7 hw) (ow8 hw) (ow6 hw) (ow9 hw) (by decide) (rm3 l Z a0 hw [] b9 (0 : Int32) (1 : Int32) (.int (0 : Int32)) (.int (0 : Int32)) h9 n0 Zs9 A9 gb9 F9_19 F9_21 (by decide) (by decide)) e9 (W := 1) (by decide) (by decide) (by decide) (by decide) (pc := 45) (ls := #[.val (.int f), .val (.int q), .val (.int (0 : Int32)), .val (.int (1 : Int32)), .val (.int ((XT.ushr f (2 : Int32)) &&& (3 : Int32))), .val (.int (own_pick ((XT.ushr f (2 : Int32)) &&& (3 : Int32)) q)), .unset, .unset, .unset]) (stk := [(.int (1 : Int32)), (.int (0 : Int32)), (.ref b9), (.ref b9)]) (by rw [hml]; rfl) (a := b9) (argsL := [(.int (0 : Int32)), (.int (1 : Int32))]) (rest := [(.ref b9)]) (lenOf pd2 rfl) rfl rfl (Nat.le_of_eq rfl) (hb hby at_45)
      obtain ⟨rfl, Nq10, Kq10, Eq10, Fq10_0, Fq10_1⟩ := hQ10
      have N10 := Fr.app N8 Nq10
      have Zs10 : n0 ≤ T10.heap.size := Nat.le_trans Zs9 Kq10.1
      refine OGo.st st10 ?_
      show OGo p.tables e below Φ (T10.setTop (mkF m 48 #[.val (.int f), .val (.int q), .val (.int (0 : Int32)), .val (.int (1 : Int32)), .val (.int ((XT.ushr f (2 : Int32)) &&& (3 : Int32))), .val (.int (own_pick ((XT.ushr f (2 : Int32)) &&& (3 : Int32)) q)), .unset, .unset, .unset] [(.ref b9)]))
      refine OGo.st (fun _ k => XS.astore X10.here hx rfl (hb hby at_48) rfl rfl (l' := #[.val (.int f), .val (.int q), .val (.int (0 : Int32)), .val (.int (1 : Int32)), .val (.int ((XT.ushr f (2 : Int32)) &&& (3 : Int32))), .val (.int (own_pick ((XT.ushr f (2 : Int32)) &&& (3 : Int32)) q)), .val (.ref b9), .unset, .unset]) rfl k) ?_
      show OGo p.tables e below Φ (T10.setTop (mkF m 50 #[.val (.int f), .val (.int q), .val (.int (0 : Int32)), .val (.int (1 : Int32)), .val (.int ((XT.ushr f (2 : Int32)) &&& (3 : Int32))), .val (.int (own_pick ((XT.ushr f (2 : Int32)) &&& (3 : Int32)) q)), .val (.ref b9), .unset, .unset] []))
      refine OGo.st (fun _ k => XS.aload X10.here hx rfl (hb hby at_50) rfl rfl k) ?_
      show OGo p.tables e below Φ (T10.setTop (mkF m 52 #[.val (.int f), .val (.int q), .val (.int (0 : Int32)), .val (.int (1 : Int32)), .val (.int ((XT.ushr f (2 : Int32)) &&& (3 : Int32))), .val (.int (own_pick ((XT.ushr f (2 : Int32)) &&& (3 : Int32)) q)), .val (.ref b9), .unset, .unset] [(.ref b9)]))
      refine OGo.st (fun _ k => XS.iload X10.here hx rfl (hb hby at_52) rfl k) ?_
      show OGo p.tables e below Φ (T10.setTop (mkF m 54 #[.val (.int f), .val (.int q), .val (.int (0 : Int32)), .val (.int (1 : Int32)), .val (.int ((XT.ushr f (2 : Int32)) &&& (3 : Int32))), .val (.int (own_pick ((XT.ushr f (2 : Int32)) &&& (3 : Int32)) q)), .val (.ref b9), .unset, .unset] [(.int (own_pick ((XT.ushr f (2 : Int32)) &&& (3 : Int32)) q)), (.ref b9)]))
      obtain ⟨_, T11, L11, X11, hQ11, st11⟩ := own_callVi X10 hx hZ hown (ow22 hw) (ow23 hw) (notFace_of_selects (args := #[]) (mvT hZ (ow25 hw))) (ow25 hw) (ow24 hw) (ow6 hw) (ow26 hw) (by decide) (rm4 l Z a0 hw [] b9 (0 : Int32) (1 : Int32) (own_pick ((XT.ushr f (2 : Int32)) &&& (3 : Int32)) q) T10.heap n0 Zs10 Fq10_0 Fq10_1) rfl (W := 0) (by decide) (by decide) (by decide) (by decide) Eq10 (pc := 54) (ls := #[.val (.int f), .val (.int q), .val (.int (0 : Int32)), .val (.int (1 : Int32)), .val (.int ((XT.ushr f (2 : Int32)) &&& (3 : Int32))), .val (.int (own_pick ((XT.ushr f (2 : Int32)) &&& (3 : Int32)) q)), .val (.ref b9), .unset, .unset]) (stk := [(.int (own_pick ((XT.ushr f (2 : Int32)) &&& (3 : Int32)) q)), (.ref b9)]) (by rw [hml]; rfl) (argsL := [(.int (own_pick ((XT.ushr f (2 : Int32)) &&& (3 : Int32)) q))]) (rest := []) (lenOf pd3 rfl) rfl rfl (Nat.le_of_eq rfl) (hb hby at_54)
      obtain ⟨rfl, Nq11, e11⟩ := hQ11
      have N11 := Fr.app N10 Nq11
      refine OGo.st st11 ?_
      show OGo p.tables e below Φ (T11.setTop (mkF m 57 #[.val (.int f), .val (.int q), .val (.int (0 : Int32)), .val (.int (1 : Int32)), .val (.int ((XT.ushr f (2 : Int32)) &&& (3 : Int32))), .val (.int (own_pick ((XT.ushr f (2 : Int32)) &&& (3 : Int32)) q)), .val (.ref b9), .unset, .unset] [(.int (own_bei (0 : Int32) (1 : Int32) (own_pick ((XT.ushr f (2 : Int32)) &&& (3 : Int32)) q)))]))
      refine OGo.st (fun _ k => XS.istore X11.here hx rfl (hb hby at_57) rfl (l' := #[.val (.int f), .val (.int q), .val (.int (0 : Int32)), .val (.int (1 : Int32)), .val (.int ((XT.ushr f (2 : Int32)) &&& (3 : Int32))), .val (.int (own_pick ((XT.ushr f (2 : Int32)) &&& (3 : Int32)) q)), .val (.ref b9), .val (.int (own_bei (0 : Int32) (1 : Int32) (own_pick ((XT.ushr f (2 : Int32)) &&& (3 : Int32)) q))), .unset]) rfl k) ?_
      show OGo p.tables e below Φ (T11.setTop (mkF m 59 #[.val (.int f), .val (.int q), .val (.int (0 : Int32)), .val (.int (1 : Int32)), .val (.int ((XT.ushr f (2 : Int32)) &&& (3 : Int32))), .val (.int (own_pick ((XT.ushr f (2 : Int32)) &&& (3 : Int32)) q)), .val (.ref b9), .val (.int (own_bei (0 : Int32) (1 : Int32) (own_pick ((XT.ushr f (2 : Int32)) &&& (3 : Int32)) q))), .unset] []))
      refine OGo.st (fun _ k => XS.iloadN X11.here hx rfl (hb hby at_59) rfl k) ?_
      show OGo p.tables e below Φ (T11.setTop (mkF m 60 #[.val (.int f), .val (.int q), .val (.int (0 : Int32)), .val (.int (1 : Int32)), .val (.int ((XT.ushr f (2 : Int32)) &&& (3 : Int32))), .val (.int (own_pick ((XT.ushr f (2 : Int32)) &&& (3 : Int32)) q)), .val (.ref b9), .val (.int (own_bei (0 : Int32) (1 : Int32) (own_pick ((XT.ushr f (2 : Int32)) &&& (3 : Int32)) q))), .unset] [(.int (0 : Int32))]))
      refine OGo.st (fun _ k => XS.ifNo X11.here hx rfl (hb hby at_60) rfl (XT.i0_ne_f (by decide)) k) ?_
      show OGo p.tables e below Φ (T11.setTop (mkF m 63 #[.val (.int f), .val (.int q), .val (.int (0 : Int32)), .val (.int (1 : Int32)), .val (.int ((XT.ushr f (2 : Int32)) &&& (3 : Int32))), .val (.int (own_pick ((XT.ushr f (2 : Int32)) &&& (3 : Int32)) q)), .val (.ref b9), .val (.int (own_bei (0 : Int32) (1 : Int32) (own_pick ((XT.ushr f (2 : Int32)) &&& (3 : Int32)) q))), .unset] []))
      refine OGo.st (fun _ k => XS.iconst X11.here hx rfl (hb hby at_63) k) ?_
      show OGo p.tables e below Φ (T11.setTop (mkF m 64 #[.val (.int f), .val (.int q), .val (.int (0 : Int32)), .val (.int (1 : Int32)), .val (.int ((XT.ushr f (2 : Int32)) &&& (3 : Int32))), .val (.int (own_pick ((XT.ushr f (2 : Int32)) &&& (3 : Int32)) q)), .val (.ref b9), .val (.int (own_bei (0 : Int32) (1 : Int32) (own_pick ((XT.ushr f (2 : Int32)) &&& (3 : Int32)) q))), .unset] [(.int (0 : Int32))]))
      refine OGo.st (fun _ k => XS.istore X11.here hx rfl (hb hby at_64) rfl (l' := #[.val (.int f), .val (.int q), .val (.int (0 : Int32)), .val (.int (1 : Int32)), .val (.int ((XT.ushr f (2 : Int32)) &&& (3 : Int32))), .val (.int (own_pick ((XT.ushr f (2 : Int32)) &&& (3 : Int32)) q)), .val (.ref b9), .val (.int (own_bei (0 : Int32) (1 : Int32) (own_pick ((XT.ushr f (2 : Int32)) &&& (3 : Int32)) q))), .val (.int (0 : Int32))]) rfl k) ?_
      show OGo p.tables e below Φ (T11.setTop (mkF m 66 #[.val (.int f), .val (.int q), .val (.int (0 : Int32)), .val (.int (1 : Int32)), .val (.int ((XT.ushr f (2 : Int32)) &&& (3 : Int32))), .val (.int (own_pick ((XT.ushr f (2 : Int32)) &&& (3 : Int32)) q)), .val (.ref b9), .val (.int (own_bei (0 : Int32) (1 : Int32) (own_pick ((XT.ushr f (2 : Int32)) &&& (3 : Int32)) q))), .val (.int (0 : Int32))] []))
      refine OGo.st (fun _ k => XS.goto X11.here hx rfl (pc0 := 66) (pc' := 106) rfl (hb hby at_66) (by decide) (by decide) k) ?_
      show OGo p.tables e below Φ (T11.setTop (mkF m 106 #[.val (.int f), .val (.int q), .val (.int (0 : Int32)), .val (.int (1 : Int32)), .val (.int ((XT.ushr f (2 : Int32)) &&& (3 : Int32))), .val (.int (own_pick ((XT.ushr f (2 : Int32)) &&& (3 : Int32)) q)), .val (.ref b9), .val (.int (own_bei (0 : Int32) (1 : Int32) (own_pick ((XT.ushr f (2 : Int32)) &&& (3 : Int32)) q))), .val (.int (0 : Int32))] []))
      refine OGo.st (fun _ k => XS.iload X11.here hx rfl (hb hby at_106) rfl k) ?_
      show OGo p.tables e below Φ (T11.setTop (mkF m 108 #[.val (.int f), .val (.int q), .val (.int (0 : Int32)), .val (.int (1 : Int32)), .val (.int ((XT.ushr f (2 : Int32)) &&& (3 : Int32))), .val (.int (own_pick ((XT.ushr f (2 : Int32)) &&& (3 : Int32)) q)), .val (.ref b9), .val (.int (own_bei (0 : Int32) (1 : Int32) (own_pick ((XT.ushr f (2 : Int32)) &&& (3 : Int32)) q))), .val (.int (0 : Int32))] [(.int (own_bei (0 : Int32) (1 : Int32) (own_pick ((XT.ushr f (2 : Int32)) &&& (3 : Int32)) q)))]))
      refine OGo.st (fun _ k => XS.iload X11.here hx rfl (hb hby at_108) rfl k) ?_
      show OGo p.tables e below Φ (T11.setTop (mkF m 110 #[.val (.int f), .val (.int q), .val (.int (0 : Int32)), .val (.int (1 : Int32)), .val (.int ((XT.ushr f (2 : Int32)) &&& (3 : Int32))), .val (.int (own_pick ((XT.ushr f (2 : Int32)) &&& (3 : Int32)) q)), .val (.ref b9), .val (.int (own_bei (0 : Int32) (1 : Int32) (own_pick ((XT.ushr f (2 : Int32)) &&& (3 : Int32)) q))), .val (.int (0 : Int32))] [(.int (0 : Int32)), (.int (own_bei (0 : Int32) (1 : Int32) (own_pick ((XT.ushr f (2 : Int32)) &&& (3 : Int32)) q)))]))
      by_cases hc12 : (own_bei (0 : Int32) (1 : Int32) (own_pick ((XT.ushr f (2 : Int32)) &&& (3 : Int32)) q)) = (0 : Int32)
      · refine OGo.st (fun _ k => XS.icmpNo X11.here hx rfl (hb hby at_110) rfl (XT.ii_ne_f hc12) k) ?_
        show OGo p.tables e below Φ (T11.setTop (mkF m 113 #[.val (.int f), .val (.int q), .val (.int (0 : Int32)), .val (.int (1 : Int32)), .val (.int ((XT.ushr f (2 : Int32)) &&& (3 : Int32))), .val (.int (own_pick ((XT.ushr f (2 : Int32)) &&& (3 : Int32)) q)), .val (.ref b9), .val (.int (own_bei (0 : Int32) (1 : Int32) (own_pick ((XT.ushr f (2 : Int32)) &&& (3 : Int32)) q))), .val (.int (0 : Int32))] []))
        refine OGo.st (fun _ k => XS.iconst X11.here hx rfl (hb hby at_113) k) ?_
        show OGo p.tables e below Φ (T11.setTop (mkF m 114 #[.val (.int f), .val (.int q), .val (.int (0 : Int32)), .val (.int (1 : Int32)), .val (.int ((XT.ushr f (2 : Int32)) &&& (3 : Int32))), .val (.int (own_pick ((XT.ushr f (2 : Int32)) &&& (3 : Int32)) q)), .val (.ref b9), .val (.int (own_bei (0 : Int32) (1 : Int32) (own_pick ((XT.ushr f (2 : Int32)) &&& (3 : Int32)) q))), .val (.int (0 : Int32))] [(.int (1 : Int32))]))
        refine OGo.st (fun _ k => XS.goto X11.here hx rfl (pc0 := 114) (pc' := 118) rfl (hb hby at_114) (by decide) (by decide) k) ?_
        show OGo p.tables e below Φ (T11.setTop (mkF m 118 #[.val (.int f), .val (.int q), .val (.int (0 : Int32)), .val (.int (1 : Int32)), .val (.int ((XT.ushr f (2 : Int32)) &&& (3 : Int32))), .val (.int (own_pick ((XT.ushr f (2 : Int32)) &&& (3 : Int32)) q)), .val (.ref b9), .val (.int (own_bei (0 : Int32) (1 : Int32) (own_pick ((XT.ushr f (2 : Int32)) &&& (3 : Int32)) q))), .val (.int (0 : Int32))] [(.int (1 : Int32))]))
        refine OGo.fin X11 hlk (v := (some (.int (1 : Int32)))) (fun h => by rw [hret] at h; cases h) (by decide) (by decide) (fun fs hr => X11.ireturnOut hx hret rfl (by simp) (hb hby at_118) hr) fun U eU hF => hΦ _ _ _ ?_ hF
        rw [eU, e11]
        show Q_rm0 Z f q h0 n0 _ _ _
        exact ⟨rfl, N11⟩
      · refine OGo.st (fun _ k => XS.icmpYes X11.here hx rfl (pc0 := 110) (pc' := 117) rfl (hb hby at_110) rfl (XT.ii_ne_t hc12) (by decide) (by decide) k) ?_
        show OGo p.tables e below Φ (T11.setTop (mkF m 117 #[.val (.int f), .val (.int q), .val (.int (0 : Int32)), .val (.int (1 : Int32)), .val (.int ((XT.ushr f (2 : Int32)) &&& (3 : Int32))), .val (.int (own_pick ((XT.ushr f (2 : Int32)) &&& (3 : Int32)) q)), .val (.ref b9), .val (.int (own_bei (0 : Int32) (1 : Int32) (own_pick ((XT.ushr f (2 : Int32)) &&& (3 : Int32)) q))), .val (.int (0 : Int32))] []))
        refine OGo.st (fun _ k => XS.iconst X11.here hx rfl (hb hby at_117) k) ?_
        show OGo p.tables e below Φ (T11.setTop (mkF m 118 #[.val (.int f), .val (.int q), .val (.int (0 : Int32)), .val (.int (1 : Int32)), .val (.int ((XT.ushr f (2 : Int32)) &&& (3 : Int32))), .val (.int (own_pick ((XT.ushr f (2 : Int32)) &&& (3 : Int32)) q)), .val (.ref b9), .val (.int (own_bei (0 : Int32) (1 : Int32) (own_pick ((XT.ushr f (2 : Int32)) &&& (3 : Int32)) q))), .val (.int (0 : Int32))] [(.int (0 : Int32))]))
        exact absurd (by simp [own_bei, hc1, hc2]) hc12
  · refine OGo.st (fun _ k => XS.ifNo X0.here hx rfl (hb hby at_3) rfl (XT.i0_eq_f hc1) k) ?_
    show OGo p.tables e below Φ (s₁.setTop (mkF m 6 #[.val (.int f), .val (.int q), .unset, .unset, .unset, .unset, .unset, .unset, .unset] []))
    refine OGo.st (fun _ k => XS.iconst X0.here hx rfl (hb hby at_6) k) ?_
    show OGo p.tables e below Φ (s₁.setTop (mkF m 7 #[.val (.int f), .val (.int q), .unset, .unset, .unset, .unset, .unset, .unset, .unset] [(.int (1 : Int32))]))
    refine OGo.st (fun _ k => XS.goto X0.here hx rfl (pc0 := 7) (pc' := 11) rfl (hb hby at_7) (by decide) (by decide) k) ?_
    show OGo p.tables e below Φ (s₁.setTop (mkF m 11 #[.val (.int f), .val (.int q), .unset, .unset, .unset, .unset, .unset, .unset, .unset] [(.int (1 : Int32))]))
    refine OGo.st (fun _ k => XS.istoreN X0.here hx rfl (hb hby at_11) rfl (l' := #[.val (.int f), .val (.int q), .val (.int (1 : Int32)), .unset, .unset, .unset, .unset, .unset, .unset]) rfl k) ?_
    show OGo p.tables e below Φ (s₁.setTop (mkF m 12 #[.val (.int f), .val (.int q), .val (.int (1 : Int32)), .unset, .unset, .unset, .unset, .unset, .unset] []))
    refine OGo.st (fun _ k => XS.iloadN X0.here hx rfl (hb hby at_12) rfl k) ?_
    show OGo p.tables e below Φ (s₁.setTop (mkF m 13 #[.val (.int f), .val (.int q), .val (.int (1 : Int32)), .unset, .unset, .unset, .unset, .unset, .unset] [(.int f)]))
    refine OGo.st (fun _ k => XS.iconst X0.here hx rfl (hb hby at_13) k) ?_
    show OGo p.tables e below Φ (s₁.setTop (mkF m 14 #[.val (.int f), .val (.int q), .val (.int (1 : Int32)), .unset, .unset, .unset, .unset, .unset, .unset] [(.int (2 : Int32)), (.int f)]))
    refine OGo.st (fun _ k => XS.iand X0.here hx rfl (hb hby at_14) rfl k) ?_
    show OGo p.tables e below Φ (s₁.setTop (mkF m 15 #[.val (.int f), .val (.int q), .val (.int (1 : Int32)), .unset, .unset, .unset, .unset, .unset, .unset] [(.int (f &&& (2 : Int32)))]))
    by_cases hc13 : (f &&& (2 : Int32)) = 0
    · refine OGo.st (fun _ k => XS.ifYes X0.here hx rfl (pc0 := 15) (pc' := 22) rfl (hb hby at_15) rfl (XT.i0_eq_t hc13) (by decide) (by decide) k) ?_
      show OGo p.tables e below Φ (s₁.setTop (mkF m 22 #[.val (.int f), .val (.int q), .val (.int (1 : Int32)), .unset, .unset, .unset, .unset, .unset, .unset] []))
      refine OGo.st (fun _ k => XS.iconst X0.here hx rfl (hb hby at_22) k) ?_
      show OGo p.tables e below Φ (s₁.setTop (mkF m 23 #[.val (.int f), .val (.int q), .val (.int (1 : Int32)), .unset, .unset, .unset, .unset, .unset, .unset] [(.int (0 : Int32))]))
      refine OGo.st (fun _ k => XS.istoreN X0.here hx rfl (hb hby at_23) rfl (l' := #[.val (.int f), .val (.int q), .val (.int (1 : Int32)), .val (.int (0 : Int32)), .unset, .unset, .unset, .unset, .unset]) rfl k) ?_
      show OGo p.tables e below Φ (s₁.setTop (mkF m 24 #[.val (.int f), .val (.int q), .val (.int (1 : Int32)), .val (.int (0 : Int32)), .unset, .unset, .unset, .unset, .unset] []))
      refine OGo.st (fun _ k => XS.iloadN X0.here hx rfl (hb hby at_24) rfl k) ?_
      show OGo p.tables e below Φ (s₁.setTop (mkF m 25 #[.val (.int f), .val (.int q), .val (.int (1 : Int32)), .val (.int (0 : Int32)), .unset, .unset, .unset, .unset, .unset] [(.int f)]))
      refine OGo.st (fun _ k => XS.iconst X0.here hx rfl (hb hby at_25) k) ?_
      show OGo p.tables e below Φ (s₁.setTop (mkF m 26 #[.val (.int f), .val (.int q), .val (.int (1 : Int32)), .val (.int (0 : Int32)), .unset, .unset, .unset, .unset, .unset] [(.int (2 : Int32)), (.int f)]))
      refine OGo.st (fun _ k => XT.iushr X0.here hx rfl (hb hby at_26) rfl k) ?_
      show OGo p.tables e below Φ (s₁.setTop (mkF m 27 #[.val (.int f), .val (.int q), .val (.int (1 : Int32)), .val (.int (0 : Int32)), .unset, .unset, .unset, .unset, .unset] [(.int (XT.ushr f (2 : Int32)))]))
      refine OGo.st (fun _ k => XS.iconst X0.here hx rfl (hb hby at_27) k) ?_
      show OGo p.tables e below Φ (s₁.setTop (mkF m 28 #[.val (.int f), .val (.int q), .val (.int (1 : Int32)), .val (.int (0 : Int32)), .unset, .unset, .unset, .unset, .unset] [(.int (3 : Int32)), (.int (XT.ushr f (2 : Int32)))]))
      refine OGo.st (fun _ k => XS.iand X0.here hx rfl (hb hby at_28) rfl k) ?_
      show OGo p.tables e below Φ (s₁.setTop (mkF m 29 #[.val (.int f), .val (.int q), .val (.int (1 : Int32)), .val (.int (0 : Int32)), .unset, .unset, .unset, .unset, .unset] [(.int ((XT.ushr f (2 : Int32)) &&& (3 : Int32)))]))
      refine OGo.st (fun _ k => XS.istore X0.here hx rfl (hb hby at_29) rfl (l' := #[.val (.int f), .val (.int q), .val (.int (1 : Int32)), .val (.int (0 : Int32)), .val (.int ((XT.ushr f (2 : Int32)) &&& (3 : Int32))), .unset, .unset, .unset, .unset]) rfl k) ?_
      show OGo p.tables e below Φ (s₁.setTop (mkF m 31 #[.val (.int f), .val (.int q), .val (.int (1 : Int32)), .val (.int (0 : Int32)), .val (.int ((XT.ushr f (2 : Int32)) &&& (3 : Int32))), .unset, .unset, .unset, .unset] []))
      refine OGo.st (fun _ k => XS.iload X0.here hx rfl (hb hby at_31) rfl k) ?_
      show OGo p.tables e below Φ (s₁.setTop (mkF m 33 #[.val (.int f), .val (.int q), .val (.int (1 : Int32)), .val (.int (0 : Int32)), .val (.int ((XT.ushr f (2 : Int32)) &&& (3 : Int32))), .unset, .unset, .unset, .unset] [(.int ((XT.ushr f (2 : Int32)) &&& (3 : Int32)))]))
      refine OGo.st (fun _ k => XS.iloadN X0.here hx rfl (hb hby at_33) rfl k) ?_
      show OGo p.tables e below Φ (s₁.setTop (mkF m 34 #[.val (.int f), .val (.int q), .val (.int (1 : Int32)), .val (.int (0 : Int32)), .val (.int ((XT.ushr f (2 : Int32)) &&& (3 : Int32))), .unset, .unset, .unset, .unset] [(.int q), (.int ((XT.ushr f (2 : Int32)) &&& (3 : Int32)))]))
      obtain ⟨_, T14, L14, X14, hQ14, st14⟩ := own_callSt X0 hx hZ hown (ow0 hw) (ow1 hw) (ow2 hw) (ow3 hw) (by decide) (rm1 l Z a0 hw [] ((XT.ushr f (2 : Int32)) &&& (3 : Int32)) q h0 n0 Z0 ) e0 (W := 0) (by decide) (by decide) (by decide) (by decide) (pc := 34) (ls := #[.val (.int f), .val (.int q), .val (.int (1 : Int32)), .val (.int (0 : Int32)), .val (.int ((XT.ushr f (2 : Int32)) &&& (3 : Int32))), .unset, .unset, .unset, .unset]) (stk := [(.int q), (.int ((XT.ushr f (2 : Int32)) &&& (3 : Int32)))]) (by rw [hml]; rfl) (argsL := [(.int ((XT.ushr f (2 : Int32)) &&& (3 : Int32))), (.int q)]) (rest := []) (lenOf pd1 rfl) rfl rfl (Nat.le_of_eq rfl) (hb hby at_34)
      obtain ⟨rfl, Nq14, e14⟩ := hQ14
      have N14 := Fr.app N0 Nq14
      refine OGo.st st14 ?_
      show OGo p.tables e below Φ (T14.setTop (mkF m 37 #[.val (.int f), .val (.int q), .val (.int (1 : Int32)), .val (.int (0 : Int32)), .val (.int ((XT.ushr f (2 : Int32)) &&& (3 : Int32))), .unset, .unset, .unset, .unset] [(.int (own_pick ((XT.ushr f (2 : Int32)) &&& (3 : Int32)) q))]))
      refine OGo.st (fun _ k => XS.istore X14.here hx rfl (hb hby at_37) rfl (l' := #[.val (.int f), .val (.int q), .val (.int (1 : Int32)), .val (.int (0 : Int32)), .val (.int ((XT.ushr f (2 : Int32)) &&& (3 : Int32))), .val (.int (own_pick ((XT.ushr f (2 : Int32)) &&& (3 : Int32)) q)), .unset, .unset, .unset]) rfl k) ?_
      show OGo p.tables e below Φ (T14.setTop (mkF m 39 #[.val (.int f), .val (.int q), .val (.int (1 : Int32)), .val (.int (0 : Int32)), .val (.int ((XT.ushr f (2 : Int32)) &&& (3 : Int32))), .val (.int (own_pick ((XT.ushr f (2 : Int32)) &&& (3 : Int32)) q)), .unset, .unset, .unset] []))
      obtain ⟨T15, h15, X15, e15, E15, A15, D15, U15, st15⟩ := newO X14 hx hZ hown (ow4 hw) (ow5 hw) (ow6 hw) e14 (g := (mkF m 39 #[.val (.int f), .val (.int q), .val (.int (1 : Int32)), .val (.int (0 : Int32)), .val (.int ((XT.ushr f (2 : Int32)) &&& (3 : Int32))), .val (.int (own_pick ((XT.ushr f (2 : Int32)) &&& (3 : Int32)) q)), .unset, .unset, .unset] [])) rfl (hb hby at_39) (by decide) (by decide)
      obtain ⟨b15, g15⟩ : ∃ z, z = h0.size := ⟨_, rfl⟩
      rw [← g15] at A15 D15 st15 U15
      have gb15 : n0 ≤ b15 := Nat.le_trans Z0 (Nat.le_of_eq g15.symm)
      have Zs15 : n0 ≤ h15.size := Nat.le_trans Z0 E15.1
      have F15_19 : Fld Z h15 b15 "com/example/orderly_migration/orderlymigration/core/Quoting" "backslashEscapes" "Z" (.int (0 : Int32)) := D15 (Or.inr (ow19 hw)) (ty := .boolean) (by decide)
      have F15_21 : Fld Z h15 b15 "com/example/orderly_migration/orderlymigration/core/Quoting" "doubleQuotedNames" "Z" (.int (0 : Int32)) := D15 (Or.inr (ow21 hw)) (ty := .boolean) (by decide)
      refine OGo.st (st15) ?_
      show OGo p.tables e below Φ (T15.setTop (mkF m 42 #[.val (.int f), .val (.int q), .val (.int (1 : Int32)), .val (.int (0 : Int32)), .val (.int ((XT.ushr f (2 : Int32)) &&& (3 : Int32))), .val (.int (own_pick ((XT.ushr f (2 : Int32)) &&& (3 : Int32)) q)), .unset, .unset, .unset] [(.ref b15)]))
      refine OGo.st (fun _ k => XS.dup X15.here hx rfl (hb hby at_42) rfl rfl k) ?_
      show OGo p.tables e below Φ (T15.setTop (mkF m 43 #[.val (.int f), .val (.int q), .val (.int (1 : Int32)), .val (.int (0 : Int32)), .val (.int ((XT.ushr f (2 : Int32)) &&& (3 : Int32))), .val (.int (own_pick ((XT.ushr f (2 : Int32)) &&& (3 : Int32)) q)), .unset, .unset, .unset] [(.ref b15), (.ref b15)]))
      refine OGo.st (fun _ k => XS.iloadN X15.here hx rfl (hb hby at_43) rfl k) ?_
      show OGo p.tables e below Φ (T15.setTop (mkF m 44 #[.val (.int f), .val (.int q), .val (.int (1 : Int32)), .val (.int (0 : Int32)), .val (.int ((XT.ushr f (2 : Int32)) &&& (3 : Int32))), .val (.int (own_pick ((XT.ushr f (2 : Int32)) &&& (3 : Int32)) q)), .unset, .unset, .unset] [(.int (1 : Int32)), (.ref b15), (.ref b15)]))
      refine OGo.st (fun _ k => XS.iloadN X15.here hx rfl (hb hby at_44) rfl k) ?_
      show OGo p.tables e below Φ (T15.setTop (mkF m 45 #[.val (.int f), .val (.int q), .val (.int (1 : Int32)), .val (.int (0 : Int32)), .val (.int ((XT.ushr f (2 : Int32)) &&& (3 : Int32))), .val (.int (own_pick ((XT.ushr f (2 : Int32)) &&& (3 : Int32)) q)), .unset, .unset, .unset] [(.int (0 : Int32)), (.int (1 : Int32)), (.ref b15), (.ref b15)]))
      obtain ⟨_, T16, L16, X16, hQ16, st16⟩ := own_callSp X15 hx hZ rfl hown (ow7 hw) (ow8 hw) (ow6 hw) (ow9 hw) (by decide) (rm3 l Z a0 hw [] b15 (1 : Int32) (0 : Int32) (.int (0 : Int32)) (.int (0 : Int32)) h15 n0 Zs15 A15 gb15 F15_19 F15_21 (by decide) (by decide)) e15 (W := 1) (by decide) (by decide) (by decide) (by decide) (pc := 45) (ls := #[.val (.int f), .val (.int q), .val (.int (1 : Int32)), .val (.int (0 : Int32)), .val (.int ((XT.ushr f (2 : Int32)) &&& (3 : Int32))), .val (.int (own_pick ((XT.ushr f (2 : Int32)) &&& (3 : Int32)) q)), .unset, .unset, .unset]) (stk := [(.int (0 : Int32)), (.int (1 : Int32)), (.ref b15), (.ref b15)]) (by rw [hml]; rfl) (a := b15) (argsL := [(.int (1 : Int32)), (.int (0 : Int32))]) (rest := [(.ref b15)]) (lenOf pd2 rfl) rfl rfl (Nat.le_of_eq rfl) (hb hby at_45)
      obtain ⟨rfl, Nq16, Kq16, Eq16, Fq16_0, Fq16_1⟩ := hQ16
      have N16 := Fr.app N14 Nq16
      have Zs16 : n0 ≤ T16.heap.size := Nat.le_trans Zs15 Kq16.1
      refine OGo.st st16 ?_
      show OGo p.tables e below Φ (T16.setTop (mkF m 48 #[.val (.int f), .val (.int q), .val (.int (1 : Int32)), .val (.int (0 : Int32)), .val (.int ((XT.ushr f (2 : Int32)) &&& (3 : Int32))), .val (.int (own_pick ((XT.ushr f (2 : Int32)) &&& (3 : Int32)) q)), .unset, .unset, .unset] [(.ref b15)]))
      refine OGo.st (fun _ k => XS.astore X16.here hx rfl (hb hby at_48) rfl rfl (l' := #[.val (.int f), .val (.int q), .val (.int (1 : Int32)), .val (.int (0 : Int32)), .val (.int ((XT.ushr f (2 : Int32)) &&& (3 : Int32))), .val (.int (own_pick ((XT.ushr f (2 : Int32)) &&& (3 : Int32)) q)), .val (.ref b15), .unset, .unset]) rfl k) ?_
      show OGo p.tables e below Φ (T16.setTop (mkF m 50 #[.val (.int f), .val (.int q), .val (.int (1 : Int32)), .val (.int (0 : Int32)), .val (.int ((XT.ushr f (2 : Int32)) &&& (3 : Int32))), .val (.int (own_pick ((XT.ushr f (2 : Int32)) &&& (3 : Int32)) q)), .val (.ref b15), .unset, .unset] []))
      refine OGo.st (fun _ k => XS.aload X16.here hx rfl (hb hby at_50) rfl rfl k) ?_
      show OGo p.tables e below Φ (T16.setTop (mkF m 52 #[.val (.int f), .val (.int q), .val (.int (1 : Int32)), .val (.int (0 : Int32)), .val (.int ((XT.ushr f (2 : Int32)) &&& (3 : Int32))), .val (.int (own_pick ((XT.ushr f (2 : Int32)) &&& (3 : Int32)) q)), .val (.ref b15), .unset, .unset] [(.ref b15)]))
      refine OGo.st (fun _ k => XS.iload X16.here hx rfl (hb hby at_52) rfl k) ?_
      show OGo p.tables e below Φ (T16.setTop (mkF m 54 #[.val (.int f), .val (.int q), .val (.int (1 : Int32)), .val (.int (0 : Int32)), .val (.int ((XT.ushr f (2 : Int32)) &&& (3 : Int32))), .val (.int (own_pick ((XT.ushr f (2 : Int32)) &&& (3 : Int32)) q)), .val (.ref b15), .unset, .unset] [(.int (own_pick ((XT.ushr f (2 : Int32)) &&& (3 : Int32)) q)), (.ref b15)]))
      obtain ⟨_, T17, L17, X17, hQ17, st17⟩ := own_callVi X16 hx hZ hown (ow22 hw) (ow23 hw) (notFace_of_selects (args := #[]) (mvT hZ (ow25 hw))) (ow25 hw) (ow24 hw) (ow6 hw) (ow26 hw) (by decide) (rm4 l Z a0 hw [] b15 (1 : Int32) (0 : Int32) (own_pick ((XT.ushr f (2 : Int32)) &&& (3 : Int32)) q) T16.heap n0 Zs16 Fq16_0 Fq16_1) rfl (W := 0) (by decide) (by decide) (by decide) (by decide) Eq16 (pc := 54) (ls := #[.val (.int f), .val (.int q), .val (.int (1 : Int32)), .val (.int (0 : Int32)), .val (.int ((XT.ushr f (2 : Int32)) &&& (3 : Int32))), .val (.int (own_pick ((XT.ushr f (2 : Int32)) &&& (3 : Int32)) q)), .val (.ref b15), .unset, .unset]) (stk := [(.int (own_pick ((XT.ushr f (2 : Int32)) &&& (3 : Int32)) q)), (.ref b15)]) (by rw [hml]; rfl) (argsL := [(.int (own_pick ((XT.ushr f (2 : Int32)) &&& (3 : Int32)) q))]) (rest := []) (lenOf pd3 rfl) rfl rfl (Nat.le_of_eq rfl) (hb hby at_54)
      obtain ⟨rfl, Nq17, e17⟩ := hQ17
      have N17 := Fr.app N16 Nq17
      refine OGo.st st17 ?_
      show OGo p.tables e below Φ (T17.setTop (mkF m 57 #[.val (.int f), .val (.int q), .val (.int (1 : Int32)), .val (.int (0 : Int32)), .val (.int ((XT.ushr f (2 : Int32)) &&& (3 : Int32))), .val (.int (own_pick ((XT.ushr f (2 : Int32)) &&& (3 : Int32)) q)), .val (.ref b15), .unset, .unset] [(.int (own_bei (1 : Int32) (0 : Int32) (own_pick ((XT.ushr f (2 : Int32)) &&& (3 : Int32)) q)))]))
      refine OGo.st (fun _ k => XS.istore X17.here hx rfl (hb hby at_57) rfl (l' := #[.val (.int f), .val (.int q), .val (.int (1 : Int32)), .val (.int (0 : Int32)), .val (.int ((XT.ushr f (2 : Int32)) &&& (3 : Int32))), .val (.int (own_pick ((XT.ushr f (2 : Int32)) &&& (3 : Int32)) q)), .val (.ref b15), .val (.int (own_bei (1 : Int32) (0 : Int32) (own_pick ((XT.ushr f (2 : Int32)) &&& (3 : Int32)) q))), .unset]) rfl k) ?_
      show OGo p.tables e below Φ (T17.setTop (mkF m 59 #[.val (.int f), .val (.int q), .val (.int (1 : Int32)), .val (.int (0 : Int32)), .val (.int ((XT.ushr f (2 : Int32)) &&& (3 : Int32))), .val (.int (own_pick ((XT.ushr f (2 : Int32)) &&& (3 : Int32)) q)), .val (.ref b15), .val (.int (own_bei (1 : Int32) (0 : Int32) (own_pick ((XT.ushr f (2 : Int32)) &&& (3 : Int32)) q))), .unset] []))
      refine OGo.st (fun _ k => XS.iloadN X17.here hx rfl (hb hby at_59) rfl k) ?_
      show OGo p.tables e below Φ (T17.setTop (mkF m 60 #[.val (.int f), .val (.int q), .val (.int (1 : Int32)), .val (.int (0 : Int32)), .val (.int ((XT.ushr f (2 : Int32)) &&& (3 : Int32))), .val (.int (own_pick ((XT.ushr f (2 : Int32)) &&& (3 : Int32)) q)), .val (.ref b15), .val (.int (own_bei (1 : Int32) (0 : Int32) (own_pick ((XT.ushr f (2 : Int32)) &&& (3 : Int32)) q))), .unset] [(.int (1 : Int32))]))
      refine OGo.st (fun _ k => XS.ifYes X17.here hx rfl (pc0 := 60) (pc' := 69) rfl (hb hby at_60) rfl (XT.i0_ne_t (by decide)) (by decide) (by decide) k) ?_
      show OGo p.tables e below Φ (T17.setTop (mkF m 69 #[.val (.int f), .val (.int q), .val (.int (1 : Int32)), .val (.int (0 : Int32)), .val (.int ((XT.ushr f (2 : Int32)) &&& (3 : Int32))), .val (.int (own_pick ((XT.ushr f (2 : Int32)) &&& (3 : Int32)) q)), .val (.ref b15), .val (.int (own_bei (1 : Int32) (0 : Int32) (own_pick ((XT.ushr f (2 : Int32)) &&& (3 : Int32)) q))), .unset] []))
      refine OGo.st (fun _ k => XS.iload X17.here hx rfl (hb hby at_69) rfl k) ?_
      show OGo p.tables e below Φ (T17.setTop (mkF m 71 #[.val (.int f), .val (.int q), .val (.int (1 : Int32)), .val (.int (0 : Int32)), .val (.int ((XT.ushr f (2 : Int32)) &&& (3 : Int32))), .val (.int (own_pick ((XT.ushr f (2 : Int32)) &&& (3 : Int32)) q)), .val (.ref b15), .val (.int (own_bei (1 : Int32) (0 : Int32) (own_pick ((XT.ushr f (2 : Int32)) &&& (3 : Int32)) q))), .unset] [(.int (own_pick ((XT.ushr f (2 : Int32)) &&& (3 : Int32)) q))]))
      refine OGo.st (fun _ k => XS.bipush X17.here hx rfl (hb hby at_71) k) ?_
      show OGo p.tables e below Φ (T17.setTop (mkF m 73 #[.val (.int f), .val (.int q), .val (.int (1 : Int32)), .val (.int (0 : Int32)), .val (.int ((XT.ushr f (2 : Int32)) &&& (3 : Int32))), .val (.int (own_pick ((XT.ushr f (2 : Int32)) &&& (3 : Int32)) q)), .val (.ref b15), .val (.int (own_bei (1 : Int32) (0 : Int32) (own_pick ((XT.ushr f (2 : Int32)) &&& (3 : Int32)) q))), .unset] [(.int (39 : Int32)), (.int (own_pick ((XT.ushr f (2 : Int32)) &&& (3 : Int32)) q))]))
      by_cases hc18 : (own_pick ((XT.ushr f (2 : Int32)) &&& (3 : Int32)) q) = (39 : Int32)
      · refine OGo.st (fun _ k => XS.icmpNo X17.here hx rfl (hb hby at_73) rfl (XT.ii_ne_f hc18) k) ?_
        show OGo p.tables e below Φ (T17.setTop (mkF m 76 #[.val (.int f), .val (.int q), .val (.int (1 : Int32)), .val (.int (0 : Int32)), .val (.int ((XT.ushr f (2 : Int32)) &&& (3 : Int32))), .val (.int (own_pick ((XT.ushr f (2 : Int32)) &&& (3 : Int32)) q)), .val (.ref b15), .val (.int (own_bei (1 : Int32) (0 : Int32) (own_pick ((XT.ushr f (2 : Int32)) &&& (3 : Int32)) q))), .unset] []))
        refine OGo.st (fun _ k => XS.iconst X17.here hx rfl (hb hby at_76) k) ?_
        show OGo p.tables e below Φ (T17.setTop (mkF m 77 #[.val (.int f), .val (.int q), .val (.int (1 : Int32)), .val (.int (0 : Int32)), .val (.int ((XT.ushr f (2 : Int32)) &&& (3 : Int32))), .val (.int (own_pick ((XT.ushr f (2 : Int32)) &&& (3 : Int32)) q)), .val (.ref b15), .val (.int (own_bei (1 : Int32) (0 : Int32) (own_pick ((XT.ushr f (2 : Int32)) &&& (3 : Int32)) q))), .unset] [(.int (1 : Int32))]))
        refine OGo.st (fun _ k => XS.istore X17.here hx rfl (hb hby at_77) rfl (l' := #[.val (.int f), .val (.int q), .val (.int (1 : Int32)), .val (.int (0 : Int32)), .val (.int ((XT.ushr f (2 : Int32)) &&& (3 : Int32))), .val (.int (own_pick ((XT.ushr f (2 : Int32)) &&& (3 : Int32)) q)), .val (.ref b15), .val (.int (own_bei (1 : Int32) (0 : Int32) (own_pick ((XT.ushr f (2 : Int32)) &&& (3 : Int32)) q))), .val (.int (1 : Int32))]) rfl k) ?_
        show OGo p.tables e below Φ (T17.setTop (mkF m 79 #[.val (.int f), .val (.int q), .val (.int (1 : Int32)), .val (.int (0 : Int32)), .val (.int ((XT.ushr f (2 : Int32)) &&& (3 : Int32))), .val (.int (own_pick ((XT.ushr f (2 : Int32)) &&& (3 : Int32)) q)), .val (.ref b15), .val (.int (own_bei (1 : Int32) (0 : Int32) (own_pick ((XT.ushr f (2 : Int32)) &&& (3 : Int32)) q))), .val (.int (1 : Int32))] []))
        refine OGo.st (fun _ k => XS.goto X17.here hx rfl (pc0 := 79) (pc' := 106) rfl (hb hby at_79) (by decide) (by decide) k) ?_
        show OGo p.tables e below Φ (T17.setTop (mkF m 106 #[.val (.int f), .val (.int q), .val (.int (1 : Int32)), .val (.int (0 : Int32)), .val (.int ((XT.ushr f (2 : Int32)) &&& (3 : Int32))), .val (.int (own_pick ((XT.ushr f (2 : Int32)) &&& (3 : Int32)) q)), .val (.ref b15), .val (.int (own_bei (1 : Int32) (0 : Int32) (own_pick ((XT.ushr f (2 : Int32)) &&& (3 : Int32)) q))), .val (.int (1 : Int32))] []))
        refine OGo.st (fun _ k => XS.iload X17.here hx rfl (hb hby at_106) rfl k) ?_
        show OGo p.tables e below Φ (T17.setTop (mkF m 108 #[.val (.int f), .val (.int q), .val (.int (1 : Int32)), .val (.int (0 : Int32)), .val (.int ((XT.ushr f (2 : Int32)) &&& (3 : Int32))), .val (.int (own_pick ((XT.ushr f (2 : Int32)) &&& (3 : Int32)) q)), .val (.ref b15), .val (.int (own_bei (1 : Int32) (0 : Int32) (own_pick ((XT.ushr f (2 : Int32)) &&& (3 : Int32)) q))), .val (.int (1 : Int32))] [(.int (own_bei (1 : Int32) (0 : Int32) (own_pick ((XT.ushr f (2 : Int32)) &&& (3 : Int32)) q)))]))
        refine OGo.st (fun _ k => XS.iload X17.here hx rfl (hb hby at_108) rfl k) ?_
        show OGo p.tables e below Φ (T17.setTop (mkF m 110 #[.val (.int f), .val (.int q), .val (.int (1 : Int32)), .val (.int (0 : Int32)), .val (.int ((XT.ushr f (2 : Int32)) &&& (3 : Int32))), .val (.int (own_pick ((XT.ushr f (2 : Int32)) &&& (3 : Int32)) q)), .val (.ref b15), .val (.int (own_bei (1 : Int32) (0 : Int32) (own_pick ((XT.ushr f (2 : Int32)) &&& (3 : Int32)) q))), .val (.int (1 : Int32))] [(.int (1 : Int32)), (.int (own_bei (1 : Int32) (0 : Int32) (own_pick ((XT.ushr f (2 : Int32)) &&& (3 : Int32)) q)))]))
        by_cases hc19 : (own_bei (1 : Int32) (0 : Int32) (own_pick ((XT.ushr f (2 : Int32)) &&& (3 : Int32)) q)) = (1 : Int32)
        · refine OGo.st (fun _ k => XS.icmpNo X17.here hx rfl (hb hby at_110) rfl (XT.ii_ne_f hc19) k) ?_
          show OGo p.tables e below Φ (T17.setTop (mkF m 113 #[.val (.int f), .val (.int q), .val (.int (1 : Int32)), .val (.int (0 : Int32)), .val (.int ((XT.ushr f (2 : Int32)) &&& (3 : Int32))), .val (.int (own_pick ((XT.ushr f (2 : Int32)) &&& (3 : Int32)) q)), .val (.ref b15), .val (.int (own_bei (1 : Int32) (0 : Int32) (own_pick ((XT.ushr f (2 : Int32)) &&& (3 : Int32)) q))), .val (.int (1 : Int32))] []))
          refine OGo.st (fun _ k => XS.iconst X17.here hx rfl (hb hby at_113) k) ?_
          show OGo p.tables e below Φ (T17.setTop (mkF m 114 #[.val (.int f), .val (.int q), .val (.int (1 : Int32)), .val (.int (0 : Int32)), .val (.int ((XT.ushr f (2 : Int32)) &&& (3 : Int32))), .val (.int (own_pick ((XT.ushr f (2 : Int32)) &&& (3 : Int32)) q)), .val (.ref b15), .val (.int (own_bei (1 : Int32) (0 : Int32) (own_pick ((XT.ushr f (2 : Int32)) &&& (3 : Int32)) q))), .val (.int (1 : Int32))] [(.int (1 : Int32))]))
          refine OGo.st (fun _ k => XS.goto X17.here hx rfl (pc0 := 114) (pc' := 118) rfl (hb hby at_114) (by decide) (by decide) k) ?_
          show OGo p.tables e below Φ (T17.setTop (mkF m 118 #[.val (.int f), .val (.int q), .val (.int (1 : Int32)), .val (.int (0 : Int32)), .val (.int ((XT.ushr f (2 : Int32)) &&& (3 : Int32))), .val (.int (own_pick ((XT.ushr f (2 : Int32)) &&& (3 : Int32)) q)), .val (.ref b15), .val (.int (own_bei (1 : Int32) (0 : Int32) (own_pick ((XT.ushr f (2 : Int32)) &&& (3 : Int32)) q))), .val (.int (1 : Int32))] [(.int (1 : Int32))]))
          refine OGo.fin X17 hlk (v := (some (.int (1 : Int32)))) (fun h => by rw [hret] at h; cases h) (by decide) (by decide) (fun fs hr => X17.ireturnOut hx hret rfl (by simp) (hb hby at_118) hr) fun U eU hF => hΦ _ _ _ ?_ hF
          rw [eU, e17]
          show Q_rm0 Z f q h0 n0 _ _ _
          exact ⟨rfl, N17⟩
        · refine OGo.st (fun _ k => XS.icmpYes X17.here hx rfl (pc0 := 110) (pc' := 117) rfl (hb hby at_110) rfl (XT.ii_ne_t hc19) (by decide) (by decide) k) ?_
          show OGo p.tables e below Φ (T17.setTop (mkF m 117 #[.val (.int f), .val (.int q), .val (.int (1 : Int32)), .val (.int (0 : Int32)), .val (.int ((XT.ushr f (2 : Int32)) &&& (3 : Int32))), .val (.int (own_pick ((XT.ushr f (2 : Int32)) &&& (3 : Int32)) q)), .val (.ref b15), .val (.int (own_bei (1 : Int32) (0 : Int32) (own_pick ((XT.ushr f (2 : Int32)) &&& (3 : Int32)) q))), .val (.int (1 : Int32))] []))
          refine OGo.st (fun _ k => XS.iconst X17.here hx rfl (hb hby at_117) k) ?_
          show OGo p.tables e below Φ (T17.setTop (mkF m 118 #[.val (.int f), .val (.int q), .val (.int (1 : Int32)), .val (.int (0 : Int32)), .val (.int ((XT.ushr f (2 : Int32)) &&& (3 : Int32))), .val (.int (own_pick ((XT.ushr f (2 : Int32)) &&& (3 : Int32)) q)), .val (.ref b15), .val (.int (own_bei (1 : Int32) (0 : Int32) (own_pick ((XT.ushr f (2 : Int32)) &&& (3 : Int32)) q))), .val (.int (1 : Int32))] [(.int (0 : Int32))]))
          exact absurd (by simp [own_bei, hc1, hc13, hc18]) hc19
      · refine OGo.st (fun _ k => XS.icmpYes X17.here hx rfl (pc0 := 73) (pc' := 82) rfl (hb hby at_73) rfl (XT.ii_ne_t hc18) (by decide) (by decide) k) ?_
        show OGo p.tables e below Φ (T17.setTop (mkF m 82 #[.val (.int f), .val (.int q), .val (.int (1 : Int32)), .val (.int (0 : Int32)), .val (.int ((XT.ushr f (2 : Int32)) &&& (3 : Int32))), .val (.int (own_pick ((XT.ushr f (2 : Int32)) &&& (3 : Int32)) q)), .val (.ref b15), .val (.int (own_bei (1 : Int32) (0 : Int32) (own_pick ((XT.ushr f (2 : Int32)) &&& (3 : Int32)) q))), .unset] []))
        refine OGo.st (fun _ k => XS.iload X17.here hx rfl (hb hby at_82) rfl k) ?_
        show OGo p.tables e below Φ (T17.setTop (mkF m 84 #[.val (.int f), .val (.int q), .val (.int (1 : Int32)), .val (.int (0 : Int32)), .val (.int ((XT.ushr f (2 : Int32)) &&& (3 : Int32))), .val (.int (own_pick ((XT.ushr f (2 : Int32)) &&& (3 : Int32)) q)), .val (.ref b15), .val (.int (own_bei (1 : Int32) (0 : Int32) (own_pick ((XT.ushr f (2 : Int32)) &&& (3 : Int32)) q))), .unset] [(.int (own_pick ((XT.ushr f (2 : Int32)) &&& (3 : Int32)) q))]))
        refine OGo.st (fun _ k => XS.bipush X17.here hx rfl (hb hby at_84) k) ?_
        show OGo p.tables e below Φ (T17.setTop (mkF m 86 #[.val (.int f), .val (.int q), .val (.int (1 : Int32)), .val (.int (0 : Int32)), .val (.int ((XT.ushr f (2 : Int32)) &&& (3 : Int32))), .val (.int (own_pick ((XT.ushr f (2 : Int32)) &&& (3 : Int32)) q)), .val (.ref b15), .val (.int (own_bei (1 : Int32) (0 : Int32) (own_pick ((XT.ushr f (2 : Int32)) &&& (3 : Int32)) q))), .unset] [(.int (34 : Int32)), (.int (own_pick ((XT.ushr f (2 : Int32)) &&& (3 : Int32)) q))]))
        by_cases hc20 : (own_pick ((XT.ushr f (2 : Int32)) &&& (3 : Int32)) q) = (34 : Int32)
        · refine OGo.st (fun _ k => XS.icmpNo X17.here hx rfl (hb hby at_86) rfl (XT.ii_ne_f hc20) k) ?_
          show OGo p.tables e below Φ (T17.setTop (mkF m 89 #[.val (.int f), .val (.int q), .val (.int (1 : Int32)), .val (.int (0 : Int32)), .val (.int ((XT.ushr f (2 : Int32)) &&& (3 : Int32))), .val (.int (own_pick ((XT.ushr f (2 : Int32)) &&& (3 : Int32)) q)), .val (.ref b15), .val (.int (own_bei (1 : Int32) (0 : Int32) (own_pick ((XT.ushr f (2 : Int32)) &&& (3 : Int32)) q))), .unset] []))
          refine OGo.st (fun _ k => XS.iloadN X17.here hx rfl (hb hby at_89) rfl k) ?_
          show OGo p.tables e below Φ (T17.setTop (mkF m 90 #[.val (.int f), .val (.int q), .val (.int (1 : Int32)), .val (.int (0 : Int32)), .val (.int ((XT.ushr f (2 : Int32)) &&& (3 : Int32))), .val (.int (own_pick ((XT.ushr f (2 : Int32)) &&& (3 : Int32)) q)), .val (.ref b15), .val (.int (own_bei (1 : Int32) (0 : Int32) (own_pick ((XT.ushr f (2 : Int32)) &&& (3 : Int32)) q))), .unset] [(.int (0 : Int32))]))
          refine OGo.st (fun _ k => XS.ifNo X17.here hx rfl (hb hby at_90) rfl (XT.i0_ne_f (by decide)) k) ?_
          show OGo p.tables e below Φ (T17.setTop (mkF m 93 #[.val (.int f), .val (.int q), .val (.int (1 : Int32)), .val (.int (0 : Int32)), .val (.int ((XT.ushr f (2 : Int32)) &&& (3 : Int32))), .val (.int (own_pick ((XT.ushr f (2 : Int32)) &&& (3 : Int32)) q)), .val (.ref b15), .val (.int (own_bei (1 : Int32) (0 : Int32) (own_pick ((XT.ushr f (2 : Int32)) &&& (3 : Int32)) q))), .unset] []))
          refine OGo.st (fun _ k => XS.iconst X17.here hx rfl (hb hby at_93) k) ?_
          show OGo p.tables e below Φ (T17.setTop (mkF m 94 #[.val (.int f), .val (.int q), .val (.int (1 : Int32)), .val (.int (0 : Int32)), .val (.int ((XT.ushr f (2 : Int32)) &&& (3 : Int32))), .val (.int (own_pick ((XT.ushr f (2 : Int32)) &&& (3 : Int32)) q)), .val (.ref b15), .val (.int (own_bei (1 : Int32) (0 : Int32) (own_pick ((XT.ushr f (2 : Int32)) &&& (3 : Int32)) q))), .unset] [(.int (1 : Int32))]))
          refine OGo.st (fun _ k => XS.goto X17.here hx rfl (pc0 := 94) (pc' := 98) rfl (hb hby at_94) (by decide) (by decide) k) ?_
          show OGo p.tables e below Φ (T17.setTop (mkF m 98 #[.val (.int f), .val (.int q), .val (.int (1 : Int32)), .val (.int (0 : Int32)), .val (.int ((XT.ushr f (2 : Int32)) &&& (3 : Int32))), .val (.int (own_pick ((XT.ushr f (2 : Int32)) &&& (3 : Int32)) q)), .val (.ref b15), .val (.int (own_bei (1 : Int32) (0 : Int32) (own_pick ((XT.ushr f (2 : Int32)) &&& (3 : Int32)) q))), .unset] [(.int (1 : Int32))]))
          refine OGo.st (fun _ k => XS.istore X17.here hx rfl (hb hby at_98) rfl (l' := #[.val (.int f), .val (.int q), .val (.int (1 : Int32)), .val (.int (0 : Int32)), .val (.int ((XT.ushr f (2 : Int32)) &&& (3 : Int32))), .val (.int (own_pick ((XT.ushr f (2 : Int32)) &&& (3 : Int32)) q)), .val (.ref b15), .val (.int (own_bei (1 : Int32) (0 : Int32) (own_pick ((XT.ushr f (2 : Int32)) &&& (3 : Int32)) q))), .val (.int (1 : Int32))]) rfl k) ?_
          show OGo p.tables e below Φ (T17.setTop (mkF m 100 #[.val (.int f), .val (.int q), .val (.int (1 : Int32)), .val (.int (0 : Int32)), .val (.int ((XT.ushr f (2 : Int32)) &&& (3 : Int32))), .val (.int (own_pick ((XT.ushr f (2 : Int32)) &&& (3 : Int32)) q)), .val (.ref b15), .val (.int (own_bei (1 : Int32) (0 : Int32) (own_pick ((XT.ushr f (2 : Int32)) &&& (3 : Int32)) q))), .val (.int (1 : Int32))] []))
          refine OGo.st (fun _ k => XS.goto X17.here hx rfl (pc0 := 100) (pc' := 106) rfl (hb hby at_100) (by decide) (by decide) k) ?_
          show OGo p.tables e below Φ (T17.setTop (mkF m 106 #[.val (.int f), .val (.int q), .val (.int (1 : Int32)), .val (.int (0 : Int32)), .val (.int ((XT.ushr f (2 : Int32)) &&& (3 : Int32))), .val (.int (own_pick ((XT.ushr f (2 : Int32)) &&& (3 : Int32)) q)), .val (.ref b15), .val (.int (own_bei (1 : Int32) (0 : Int32) (own_pick ((XT.ushr f (2 : Int32)) &&& (3 : Int32)) q))), .val (.int (1 : Int32))] []))
          refine OGo.st (fun _ k => XS.iload X17.here hx rfl (hb hby at_106) rfl k) ?_
          show OGo p.tables e below Φ (T17.setTop (mkF m 108 #[.val (.int f), .val (.int q), .val (.int (1 : Int32)), .val (.int (0 : Int32)), .val (.int ((XT.ushr f (2 : Int32)) &&& (3 : Int32))), .val (.int (own_pick ((XT.ushr f (2 : Int32)) &&& (3 : Int32)) q)), .val (.ref b15), .val (.int (own_bei (1 : Int32) (0 : Int32) (own_pick ((XT.ushr f (2 : Int32)) &&& (3 : Int32)) q))), .val (.int (1 : Int32))] [(.int (own_bei (1 : Int32) (0 : Int32) (own_pick ((XT.ushr f (2 : Int32)) &&& (3 : Int32)) q)))]))
          refine OGo.st (fun _ k => XS.iload X17.here hx rfl (hb hby at_108) rfl k) ?_
          show OGo p.tables e below Φ (T17.setTop (mkF m 110 #[.val (.int f), .val (.int q), .val (.int (1 : Int32)), .val (.int (0 : Int32)), .val (.int ((XT.ushr f (2 : Int32)) &&& (3 : Int32))), .val (.int (own_pick ((XT.ushr f (2 : Int32)) &&& (3 : Int32)) q)), .val (.ref b15), .val (.int (own_bei (1 : Int32) (0 : Int32) (own_pick ((XT.ushr f (2 : Int32)) &&& (3 : Int32)) q))), .val (.int (1 : Int32))] [(.int (1 : Int32)), (.int (own_bei (1 : Int32) (0 : Int32) (own_pick ((XT.ushr f (2 : Int32)) &&& (3 : Int32)) q)))]))
          by_cases hc21 : (own_bei (1 : Int32) (0 : Int32) (own_pick ((XT.ushr f (2 : Int32)) &&& (3 : Int32)) q)) = (1 : Int32)
          · refine OGo.st (fun _ k => XS.icmpNo X17.here hx rfl (hb hby at_110) rfl (XT.ii_ne_f hc21) k) ?_
            show OGo p.tables e below Φ (T17.setTop (mkF m 113 #[.val (.int f), .val (.int q), .val (.int (1 : Int32)), .val (.int (0 : Int32)), .val (.int ((XT.ushr f (2 : Int32)) &&& (3 : Int32))), .val (.int (own_pick ((XT.ushr f (2 : Int32)) &&& (3 : Int32)) q)), .val (.ref b15), .val (.int (own_bei (1 : Int32) (0 : Int32) (own_pick ((XT.ushr f (2 : Int32)) &&& (3 : Int32)) q))), .val (.int (1 : Int32))] []))
            refine OGo.st (fun _ k => XS.iconst X17.here hx rfl (hb hby at_113) k) ?_
            show OGo p.tables e below Φ (T17.setTop (mkF m 114 #[.val (.int f), .val (.int q), .val (.int (1 : Int32)), .val (.int (0 : Int32)), .val (.int ((XT.ushr f (2 : Int32)) &&& (3 : Int32))), .val (.int (own_pick ((XT.ushr f (2 : Int32)) &&& (3 : Int32)) q)), .val (.ref b15), .val (.int (own_bei (1 : Int32) (0 : Int32) (own_pick ((XT.ushr f (2 : Int32)) &&& (3 : Int32)) q))), .val (.int (1 : Int32))] [(.int (1 : Int32))]))
            refine OGo.st (fun _ k => XS.goto X17.here hx rfl (pc0 := 114) (pc' := 118) rfl (hb hby at_114) (by decide) (by decide) k) ?_
            show OGo p.tables e below Φ (T17.setTop (mkF m 118 #[.val (.int f), .val (.int q), .val (.int (1 : Int32)), .val (.int (0 : Int32)), .val (.int ((XT.ushr f (2 : Int32)) &&& (3 : Int32))), .val (.int (own_pick ((XT.ushr f (2 : Int32)) &&& (3 : Int32)) q)), .val (.ref b15), .val (.int (own_bei (1 : Int32) (0 : Int32) (own_pick ((XT.ushr f (2 : Int32)) &&& (3 : Int32)) q))), .val (.int (1 : Int32))] [(.int (1 : Int32))]))
            refine OGo.fin X17 hlk (v := (some (.int (1 : Int32)))) (fun h => by rw [hret] at h; cases h) (by decide) (by decide) (fun fs hr => X17.ireturnOut hx hret rfl (by simp) (hb hby at_118) hr) fun U eU hF => hΦ _ _ _ ?_ hF
            rw [eU, e17]
            show Q_rm0 Z f q h0 n0 _ _ _
            exact ⟨rfl, N17⟩
          · refine OGo.st (fun _ k => XS.icmpYes X17.here hx rfl (pc0 := 110) (pc' := 117) rfl (hb hby at_110) rfl (XT.ii_ne_t hc21) (by decide) (by decide) k) ?_
            show OGo p.tables e below Φ (T17.setTop (mkF m 117 #[.val (.int f), .val (.int q), .val (.int (1 : Int32)), .val (.int (0 : Int32)), .val (.int ((XT.ushr f (2 : Int32)) &&& (3 : Int32))), .val (.int (own_pick ((XT.ushr f (2 : Int32)) &&& (3 : Int32)) q)), .val (.ref b15), .val (.int (own_bei (1 : Int32) (0 : Int32) (own_pick ((XT.ushr f (2 : Int32)) &&& (3 : Int32)) q))), .val (.int (1 : Int32))] []))
            refine OGo.st (fun _ k => XS.iconst X17.here hx rfl (hb hby at_117) k) ?_
            show OGo p.tables e below Φ (T17.setTop (mkF m 118 #[.val (.int f), .val (.int q), .val (.int (1 : Int32)), .val (.int (0 : Int32)), .val (.int ((XT.ushr f (2 : Int32)) &&& (3 : Int32))), .val (.int (own_pick ((XT.ushr f (2 : Int32)) &&& (3 : Int32)) q)), .val (.ref b15), .val (.int (own_bei (1 : Int32) (0 : Int32) (own_pick ((XT.ushr f (2 : Int32)) &&& (3 : Int32)) q))), .val (.int (1 : Int32))] [(.int (0 : Int32))]))
            exact absurd (by simp [own_bei, hc1, hc13, hc18, hc20]) hc21
        · refine OGo.st (fun _ k => XS.icmpYes X17.here hx rfl (pc0 := 86) (pc' := 103) rfl (hb hby at_86) rfl (XT.ii_ne_t hc20) (by decide) (by decide) k) ?_
          show OGo p.tables e below Φ (T17.setTop (mkF m 103 #[.val (.int f), .val (.int q), .val (.int (1 : Int32)), .val (.int (0 : Int32)), .val (.int ((XT.ushr f (2 : Int32)) &&& (3 : Int32))), .val (.int (own_pick ((XT.ushr f (2 : Int32)) &&& (3 : Int32)) q)), .val (.ref b15), .val (.int (own_bei (1 : Int32) (0 : Int32) (own_pick ((XT.ushr f (2 : Int32)) &&& (3 : Int32)) q))), .unset] []))
          refine OGo.st (fun _ k => XS.iconst X17.here hx rfl (hb hby at_103) k) ?_
          show OGo p.tables e below Φ (T17.setTop (mkF m 104 #[.val (.int f), .val (.int q), .val (.int (1 : Int32)), .val (.int (0 : Int32)), .val (.int ((XT.ushr f (2 : Int32)) &&& (3 : Int32))), .val (.int (own_pick ((XT.ushr f (2 : Int32)) &&& (3 : Int32)) q)), .val (.ref b15), .val (.int (own_bei (1 : Int32) (0 : Int32) (own_pick ((XT.ushr f (2 : Int32)) &&& (3 : Int32)) q))), .unset] [(.int (0 : Int32))]))
          refine OGo.st (fun _ k => XS.istore X17.here hx rfl (hb hby at_104) rfl (l' := #[.val (.int f), .val (.int q), .val (.int (1 : Int32)), .val (.int (0 : Int32)), .val (.int ((XT.ushr f (2 : Int32)) &&& (3 : Int32))), .val (.int (own_pick ((XT.ushr f (2 : Int32)) &&& (3 : Int32)) q)), .val (.ref b15), .val (.int (own_bei (1 : Int32) (0 : Int32) (own_pick ((XT.ushr f (2 : Int32)) &&& (3 : Int32)) q))), .val (.int (0 : Int32))]) rfl k) ?_
          show OGo p.tables e below Φ (T17.setTop (mkF m 106 #[.val (.int f), .val (.int q), .val (.int (1 : Int32)), .val (.int (0 : Int32)), .val (.int ((XT.ushr f (2 : Int32)) &&& (3 : Int32))), .val (.int (own_pick ((XT.ushr f (2 : Int32)) &&& (3 : Int32)) q)), .val (.ref b15), .val (.int (own_bei (1 : Int32) (0 : Int32) (own_pick ((XT.ushr f (2 : Int32)) &&& (3 : Int32)) q))), .val (.int (0 : Int32))] []))
          refine OGo.st (fun _ k => XS.iload X17.here hx rfl (hb hby at_106) rfl k) ?_
          show OGo p.tables e below Φ (T17.setTop (mkF m 108 #[.val (.int f), .val (.int q), .val (.int (1 : Int32)), .val (.int (0 : Int32)), .val (.int ((XT.ushr f (2 : Int32)) &&& (3 : Int32))), .val (.int (own_pick ((XT.ushr f (2 : Int32)) &&& (3 : Int32)) q)), .val (.ref b15), .val (.int (own_bei (1 : Int32) (0 : Int32) (own_pick ((XT.ushr f (2 : Int32)) &&& (3 : Int32)) q))), .val (.int (0 : Int32))] [(.int (own_bei (1 : Int32) (0 : Int32) (own_pick ((XT.ushr f (2 : Int32)) &&& (3 : Int32)) q)))]))
          refine OGo.st (fun _ k => XS.iload X17.here hx rfl (hb hby at_108) rfl k) ?_
          show OGo p.tables e below Φ (T17.setTop (mkF m 110 #[.val (.int f), .val (.int q), .val (.int (1 : Int32)), .val (.int (0 : Int32)), .val (.int ((XT.ushr f (2 : Int32)) &&& (3 : Int32))), .val (.int (own_pick ((XT.ushr f (2 : Int32)) &&& (3 : Int32)) q)), .val (.ref b15), .val (.int (own_bei (1 : Int32) (0 : Int32) (own_pick ((XT.ushr f (2 : Int32)) &&& (3 : Int32)) q))), .val (.int (0 : Int32))] [(.int (0 : Int32)), (.int (own_bei (1 : Int32) (0 : Int32) (own_pick ((XT.ushr f (2 : Int32)) &&& (3 : Int32)) q)))]))
          by_cases hc22 : (own_bei (1 : Int32) (0 : Int32) (own_pick ((XT.ushr f (2 : Int32)) &&& (3 : Int32)) q)) = (0 : Int32)
          · refine OGo.st (fun _ k => XS.icmpNo X17.here hx rfl (hb hby at_110) rfl (XT.ii_ne_f hc22) k) ?_
            show OGo p.tables e below Φ (T17.setTop (mkF m 113 #[.val (.int f), .val (.int q), .val (.int (1 : Int32)), .val (.int (0 : Int32)), .val (.int ((XT.ushr f (2 : Int32)) &&& (3 : Int32))), .val (.int (own_pick ((XT.ushr f (2 : Int32)) &&& (3 : Int32)) q)), .val (.ref b15), .val (.int (own_bei (1 : Int32) (0 : Int32) (own_pick ((XT.ushr f (2 : Int32)) &&& (3 : Int32)) q))), .val (.int (0 : Int32))] []))
            refine OGo.st (fun _ k => XS.iconst X17.here hx rfl (hb hby at_113) k) ?_
            show OGo p.tables e below Φ (T17.setTop (mkF m 114 #[.val (.int f), .val (.int q), .val (.int (1 : Int32)), .val (.int (0 : Int32)), .val (.int ((XT.ushr f (2 : Int32)) &&& (3 : Int32))), .val (.int (own_pick ((XT.ushr f (2 : Int32)) &&& (3 : Int32)) q)), .val (.ref b15), .val (.int (own_bei (1 : Int32) (0 : Int32) (own_pick ((XT.ushr f (2 : Int32)) &&& (3 : Int32)) q))), .val (.int (0 : Int32))] [(.int (1 : Int32))]))
            refine OGo.st (fun _ k => XS.goto X17.here hx rfl (pc0 := 114) (pc' := 118) rfl (hb hby at_114) (by decide) (by decide) k) ?_
            show OGo p.tables e below Φ (T17.setTop (mkF m 118 #[.val (.int f), .val (.int q), .val (.int (1 : Int32)), .val (.int (0 : Int32)), .val (.int ((XT.ushr f (2 : Int32)) &&& (3 : Int32))), .val (.int (own_pick ((XT.ushr f (2 : Int32)) &&& (3 : Int32)) q)), .val (.ref b15), .val (.int (own_bei (1 : Int32) (0 : Int32) (own_pick ((XT.ushr f (2 : Int32)) &&& (3 : Int32)) q))), .val (.int (0 : Int32))] [(.int (1 : Int32))]))
            refine OGo.fin X17 hlk (v := (some (.int (1 : Int32)))) (fun h => by rw [hret] at h; cases h) (by decide) (by decide) (fun fs hr => X17.ireturnOut hx hret rfl (by simp) (hb hby at_118) hr) fun U eU hF => hΦ _ _ _ ?_ hF
            rw [eU, e17]
            show Q_rm0 Z f q h0 n0 _ _ _
            exact ⟨rfl, N17⟩
          · refine OGo.st (fun _ k => XS.icmpYes X17.here hx rfl (pc0 := 110) (pc' := 117) rfl (hb hby at_110) rfl (XT.ii_ne_t hc22) (by decide) (by decide) k) ?_
            show OGo p.tables e below Φ (T17.setTop (mkF m 117 #[.val (.int f), .val (.int q), .val (.int (1 : Int32)), .val (.int (0 : Int32)), .val (.int ((XT.ushr f (2 : Int32)) &&& (3 : Int32))), .val (.int (own_pick ((XT.ushr f (2 : Int32)) &&& (3 : Int32)) q)), .val (.ref b15), .val (.int (own_bei (1 : Int32) (0 : Int32) (own_pick ((XT.ushr f (2 : Int32)) &&& (3 : Int32)) q))), .val (.int (0 : Int32))] []))
            refine OGo.st (fun _ k => XS.iconst X17.here hx rfl (hb hby at_117) k) ?_
            show OGo p.tables e below Φ (T17.setTop (mkF m 118 #[.val (.int f), .val (.int q), .val (.int (1 : Int32)), .val (.int (0 : Int32)), .val (.int ((XT.ushr f (2 : Int32)) &&& (3 : Int32))), .val (.int (own_pick ((XT.ushr f (2 : Int32)) &&& (3 : Int32)) q)), .val (.ref b15), .val (.int (own_bei (1 : Int32) (0 : Int32) (own_pick ((XT.ushr f (2 : Int32)) &&& (3 : Int32)) q))), .val (.int (0 : Int32))] [(.int (0 : Int32))]))
            exact absurd (by simp [own_bei, hc1, hc13, hc18, hc20]) hc22
    · refine OGo.st (fun _ k => XS.ifNo X0.here hx rfl (hb hby at_15) rfl (XT.i0_eq_f hc13) k) ?_
      show OGo p.tables e below Φ (s₁.setTop (mkF m 18 #[.val (.int f), .val (.int q), .val (.int (1 : Int32)), .unset, .unset, .unset, .unset, .unset, .unset] []))
      refine OGo.st (fun _ k => XS.iconst X0.here hx rfl (hb hby at_18) k) ?_
      show OGo p.tables e below Φ (s₁.setTop (mkF m 19 #[.val (.int f), .val (.int q), .val (.int (1 : Int32)), .unset, .unset, .unset, .unset, .unset, .unset] [(.int (1 : Int32))]))
      refine OGo.st (fun _ k => XS.goto X0.here hx rfl (pc0 := 19) (pc' := 23) rfl (hb hby at_19) (by decide) (by decide) k) ?_
      show OGo p.tables e below Φ (s₁.setTop (mkF m 23 #[.val (.int f), .val (.int q), .val (.int (1 : Int32)), .unset, .unset, .unset, .unset, .unset, .unset] [(.int (1 : Int32))]))
      refine OGo.st (fun _ k => XS.istoreN X0.here hx rfl (hb hby at_23) rfl (l' := #[.val (.int f), .val (.int q), .val (.int (1 : Int32)), .val (.int (1 : Int32)), .unset, .unset, .unset, .unset, .unset]) rfl k) ?_
      show OGo p.tables e below Φ (s₁.setTop (mkF m 24 #[.val (.int f), .val (.int q), .val (.int (1 : Int32)), .val (.int (1 : Int32)), .unset, .unset, .unset, .unset, .unset] []))
      refine OGo.st (fun _ k => XS.iloadN X0.here hx rfl (hb hby at_24) rfl k) ?_
      show OGo p.tables e below Φ (s₁.setTop (mkF m 25 #[.val (.int f), .val (.int q), .val (.int (1 : Int32)), .val (.int (1 : Int32)), .unset, .unset, .unset, .unset, .unset] [(.int f)]))
      refine OGo.st (fun _ k => XS.iconst X0.here hx rfl (hb hby at_25) k) ?_
      show OGo p.tables e below Φ (s₁.setTop (mkF m 26 #[.val (.int f), .val (.int q), .val (.int (1 : Int32)), .val (.int (1 : Int32)), .unset, .unset, .unset, .unset, .unset] [(.int (2 : Int32)), (.int f)]))
      refine OGo.st (fun _ k => XT.iushr X0.here hx rfl (hb hby at_26) rfl k) ?_
      show OGo p.tables e below Φ (s₁.setTop (mkF m 27 #[.val (.int f), .val (.int q), .val (.int (1 : Int32)), .val (.int (1 : Int32)), .unset, .unset, .unset, .unset, .unset] [(.int (XT.ushr f (2 : Int32)))]))
      refine OGo.st (fun _ k => XS.iconst X0.here hx rfl (hb hby at_27) k) ?_
      show OGo p.tables e below Φ (s₁.setTop (mkF m 28 #[.val (.int f), .val (.int q), .val (.int (1 : Int32)), .val (.int (1 : Int32)), .unset, .unset, .unset, .unset, .unset] [(.int (3 : Int32)), (.int (XT.ushr f (2 : Int32)))]))
      refine OGo.st (fun _ k => XS.iand X0.here hx rfl (hb hby at_28) rfl k) ?_
      show OGo p.tables e below Φ (s₁.setTop (mkF m 29 #[.val (.int f), .val (.int q), .val (.int (1 : Int32)), .val (.int (1 : Int32)), .unset, .unset, .unset, .unset, .unset] [(.int ((XT.ushr f (2 : Int32)) &&& (3 : Int32)))]))
      refine OGo.st (fun _ k => XS.istore X0.here hx rfl (hb hby at_29) rfl (l' := #[.val (.int f), .val (.int q), .val (.int (1 : Int32)), .val (.int (1 : Int32)), .val (.int ((XT.ushr f (2 : Int32)) &&& (3 : Int32))), .unset, .unset, .unset, .unset]) rfl k) ?_
      show OGo p.tables e below Φ (s₁.setTop (mkF m 31 #[.val (.int f), .val (.int q), .val (.int (1 : Int32)), .val (.int (1 : Int32)), .val (.int ((XT.ushr f (2 : Int32)) &&& (3 : Int32))), .unset, .unset, .unset, .unset] []))
      refine OGo.st (fun _ k => XS.iload X0.here hx rfl (hb hby at_31) rfl k) ?_
      show OGo p.tables e below Φ (s₁.setTop (mkF m 33 #[.val (.int f), .val (.int q), .val (.int (1 : Int32)), .val (.int (1 : Int32)), .val (.int ((XT.ushr f (2 : Int32)) &&& (3 : Int32))), .unset, .unset, .unset, .unset] [(.int ((XT.ushr f (2 : Int32)) &&& (3 : Int32)))]))
      refine OGo.st (fun _ k => XS.iloadN X0.here hx rfl (hb hby at_33) rfl k) ?_
      show OGo p.tables e below Φ (s₁.setTop (mkF m 34 #[.val (.int f), .val (.int q), .val (.int (1 : Int32)), .val (.int (1 : Int32)), .val (.int ((XT.ushr f (2 : Int32)) &&& (3 : Int32))), .unset, .unset, .unset, .unset] [(.int q), (.int ((XT.ushr f (2 : Int32)) &&& (3 : Int32)))]))
      obtain ⟨_, T23, L23, X23, hQ23, st23⟩ := own_callSt X0 hx hZ hown (ow0 hw) (ow1 hw) (ow2 hw) (ow3 hw) (by decide) (rm1 l Z a0 hw [] ((XT.ushr f (2 : Int32)) &&& (3 : Int32)) q h0 n0 Z0 ) e0 (W := 0) (by decide) (by decide) (by decide) (by decide) (pc := 34) (ls := #[.val (.int f), .val (.int q), .val (.int (1 : Int32)), .val (.int (1 : Int32)), .val (.int ((XT.ushr f (2 : Int32)) &&& (3 : Int32))), .unset, .unset, .unset, .unset]) (stk := [(.int q), (.int ((XT.ushr f (2 : Int32)) &&& (3 : Int32)))]) (by rw [hml]; rfl) (argsL := [(.int ((XT.ushr f (2 : Int32)) &&& (3 : Int32))), (.int q)]) (rest := []) (lenOf pd1 rfl) rfl rfl (Nat.le_of_eq rfl) (hb hby at_34)
      obtain ⟨rfl, Nq23, e23⟩ := hQ23
      have N23 := Fr.app N0 Nq23
      refine OGo.st st23 ?_
      show OGo p.tables e below Φ (T23.setTop (mkF m 37 #[.val (.int f), .val (.int q), .val (.int (1 : Int32)), .val (.int (1 : Int32)), .val (.int ((XT.ushr f (2 : Int32)) &&& (3 : Int32))), .unset, .unset, .unset, .unset] [(.int (own_pick ((XT.ushr f (2 : Int32)) &&& (3 : Int32)) q))]))
      refine OGo.st (fun _ k => XS.istore X23.here hx rfl (hb hby at_37) rfl (l' := #[.val (.int f), .val (.int q), .val (.int (1 : Int32)), .val (.int (1 : Int32)), .val (.int ((XT.ushr f (2 : Int32)) &&& (3 : Int32))), .val (.int (own_pick ((XT.ushr f (2 : Int32)) &&& (3 : Int32)) q)), .unset, .unset, .unset]) rfl k) ?_
      show OGo p.tables e below Φ (T23.setTop (mkF m 39 #[.val (.int f), .val (.int q), .val (.int (1 : Int32)), .val (.int (1 : Int32)), .val (.int ((XT.ushr f (2 : Int32)) &&& (3 : Int32))), .val (.int (own_pick ((XT.ushr f (2 : Int32)) &&& (3 : Int32)) q)), .unset, .unset, .unset] []))
      obtain ⟨T24, h24, X24, e24, E24, A24, D24, U24, st24⟩ := newO X23 hx hZ hown (ow4 hw) (ow5 hw) (ow6 hw) e23 (g := (mkF m 39 #[.val (.int f), .val (.int q), .val (.int (1 : Int32)), .val (.int (1 : Int32)), .val (.int ((XT.ushr f (2 : Int32)) &&& (3 : Int32))), .val (.int (own_pick ((XT.ushr f (2 : Int32)) &&& (3 : Int32)) q)), .unset, .unset, .unset] [])) rfl (hb hby at_39) (by decide) (by decide)
      obtain ⟨b24, g24⟩ : ∃ z, z = h0.size := ⟨_, rfl⟩
      rw [← g24] at A24 D24 st24 U24
      have gb24 : n0 ≤ b24 := Nat.le_trans Z0 (Nat.le_of_eq g24.symm)
      have Zs24 : n0 ≤ h24.size := Nat.le_trans Z0 E24.1
      have F24_19 : Fld Z h24 b24 "com/example/orderly_migration/orderlymigration/core/Quoting" "backslashEscapes" "Z" (.int (0 : Int32)) := D24 (Or.inr (ow19 hw)) (ty := .boolean) (by decide)
      have F24_21 : Fld Z h24 b24 "com/example/orderly_migration/orderlymigration/core/Quoting" "doubleQuotedNames" "Z" (.int (0 : Int32)) := D24 (Or.inr (ow21 hw)) (ty := .boolean) (by decide)
      refine OGo.st (st24) ?_
      show OGo p.tables e below Φ (T24.setTop (mkF m 42 #[.val (.int f), .val (.int q), .val (.int (1 : Int32)), .val (.int (1 : Int32)), .val (.int ((XT.ushr f (2 : Int32)) &&& (3 : Int32))), .val (.int (own_pick ((XT.ushr f (2 : Int32)) &&& (3 : Int32)) q)), .unset, .unset, .unset] [(.ref b24)]))
      refine OGo.st (fun _ k => XS.dup X24.here hx rfl (hb hby at_42) rfl rfl k) ?_
      show OGo p.tables e below Φ (T24.setTop (mkF m 43 #[.val (.int f), .val (.int q), .val (.int (1 : Int32)), .val (.int (1 : Int32)), .val (.int ((XT.ushr f (2 : Int32)) &&& (3 : Int32))), .val (.int (own_pick ((XT.ushr f (2 : Int32)) &&& (3 : Int32)) q)), .unset, .unset, .unset] [(.ref b24), (.ref b24)]))
      refine OGo.st (fun _ k => XS.iloadN X24.here hx rfl (hb hby at_43) rfl k) ?_
      show OGo p.tables e below Φ (T24.setTop (mkF m 44 #[.val (.int f), .val (.int q), .val (.int (1 : Int32)), .val (.int (1 : Int32)), .val (.int ((XT.ushr f (2 : Int32)) &&& (3 : Int32))), .val (.int (own_pick ((XT.ushr f (2 : Int32)) &&& (3 : Int32)) q)), .unset, .unset, .unset] [(.int (1 : Int32)), (.ref b24), (.ref b24)]))
      refine OGo.st (fun _ k => XS.iloadN X24.here hx rfl (hb hby at_44) rfl k) ?_
      show OGo p.tables e below Φ (T24.setTop (mkF m 45 #[.val (.int f), .val (.int q), .val (.int (1 : Int32)), .val (.int (1 : Int32)), .val (.int ((XT.ushr f (2 : Int32)) &&& (3 : Int32))), .val (.int (own_pick ((XT.ushr f (2 : Int32)) &&& (3 : Int32)) q)), .unset, .unset, .unset] [(.int (1 : Int32)), (.int (1 : Int32)), (.ref b24), (.ref b24)]))
      obtain ⟨_, T25, L25, X25, hQ25, st25⟩ := own_callSp X24 hx hZ rfl hown (ow7 hw) (ow8 hw) (ow6 hw) (ow9 hw) (by decide) (rm3 l Z a0 hw [] b24 (1 : Int32) (1 : Int32) (.int (0 : Int32)) (.int (0 : Int32)) h24 n0 Zs24 A24 gb24 F24_19 F24_21 (by decide) (by decide)) e24 (W := 1) (by decide) (by decide) (by decide) (by decide) (pc := 45) (ls := #[.val (.int f), .val (.int q), .val (.int (1 : Int32)), .val (.int (1 : Int32)), .val (.int ((XT.ushr f (2 : Int32)) &&& (3 : Int32))), .val (.int (own_pick ((XT.ushr f (2 : Int32)) &&& (3 : Int32)) q)), .unset, .unset, .unset]) (stk := [(.int (1 : Int32)), (.int (1 : Int32)), (.ref b24), (.ref b24)]) (by rw [hml]; rfl) (a := b24) (argsL := [(.int (1 : Int32)), (.int (1 : Int32))]) (rest := [(.ref b24)]) (lenOf pd2 rfl) rfl rfl (Nat.le_of_eq rfl) (hb hby at_45)
      obtain ⟨rfl, Nq25, Kq25, Eq25, Fq25_0, Fq25_1⟩ := hQ25
      have N25 := Fr.app N23 Nq25
      have Zs25 : n0 ≤ T25.heap.size := Nat.le_trans Zs24 Kq25.1
      refine OGo.st st25 ?_
      show OGo p.tables e below Φ (T25.setTop (mkF m 48 #[.val (.int f), .val (.int q), .val (.int (1 : Int32)), .val (.int (1 : Int32)), .val (.int ((XT.ushr f (2 : Int32)) &&& (3 : Int32))), .val (.int (own_pick ((XT.ushr f (2 : Int32)) &&& (3 : Int32)) q)), .unset, .unset, .unset] [(.ref b24)]))
      refine OGo.st (fun _ k => XS.astore X25.here hx rfl (hb hby at_48) rfl rfl (l' := #[.val (.int f), .val (.int q), .val (.int (1 : Int32)), .val (.int (1 : Int32)), .val (.int ((XT.ushr f (2 : Int32)) &&& (3 : Int32))), .val (.int (own_pick ((XT.ushr f (2 : Int32)) &&& (3 : Int32)) q)), .val (.ref b24), .unset, .unset]) rfl k) ?_
      show OGo p.tables e below Φ (T25.setTop (mkF m 50 #[.val (.int f), .val (.int q), .val (.int (1 : Int32)), .val (.int (1 : Int32)), .val (.int ((XT.ushr f (2 : Int32)) &&& (3 : Int32))), .val (.int (own_pick ((XT.ushr f (2 : Int32)) &&& (3 : Int32)) q)), .val (.ref b24), .unset, .unset] []))
      refine OGo.st (fun _ k => XS.aload X25.here hx rfl (hb hby at_50) rfl rfl k) ?_
      show OGo p.tables e below Φ (T25.setTop (mkF m 52 #[.val (.int f), .val (.int q), .val (.int (1 : Int32)), .val (.int (1 : Int32)), .val (.int ((XT.ushr f (2 : Int32)) &&& (3 : Int32))), .val (.int (own_pick ((XT.ushr f (2 : Int32)) &&& (3 : Int32)) q)), .val (.ref b24), .unset, .unset] [(.ref b24)]))
      refine OGo.st (fun _ k => XS.iload X25.here hx rfl (hb hby at_52) rfl k) ?_
      show OGo p.tables e below Φ (T25.setTop (mkF m 54 #[.val (.int f), .val (.int q), .val (.int (1 : Int32)), .val (.int (1 : Int32)), .val (.int ((XT.ushr f (2 : Int32)) &&& (3 : Int32))), .val (.int (own_pick ((XT.ushr f (2 : Int32)) &&& (3 : Int32)) q)), .val (.ref b24), .unset, .unset] [(.int (own_pick ((XT.ushr f (2 : Int32)) &&& (3 : Int32)) q)), (.ref b24)]))
      obtain ⟨_, T26, L26, X26, hQ26, st26⟩ := own_callVi X25 hx hZ hown (ow22 hw) (ow23 hw) (notFace_of_selects (args := #[]) (mvT hZ (ow25 hw))) (ow25 hw) (ow24 hw) (ow6 hw) (ow26 hw) (by decide) (rm4 l Z a0 hw [] b24 (1 : Int32) (1 : Int32) (own_pick ((XT.ushr f (2 : Int32)) &&& (3 : Int32)) q) T25.heap n0 Zs25 Fq25_0 Fq25_1) rfl (W := 0) (by decide) (by decide) (by decide) (by decide) Eq25 (pc := 54) (ls := #[.val (.int f), .val (.int q), .val (.int (1 : Int32)), .val (.int (1 : Int32)), .val (.int ((XT.ushr f (2 : Int32)) &&& (3 : Int32))), .val (.int (own_pick ((XT.ushr f (2 : Int32)) &&& (3 : Int32)) q)), .val (.ref b24), .unset, .unset]) (stk := [(.int (own_pick ((XT.ushr f (2 : Int32)) &&& (3 : Int32)) q)), (.ref b24)]) (by rw [hml]; rfl) (argsL := [(.int (own_pick ((XT.ushr f (2 : Int32)) &&& (3 : Int32)) q))]) (rest := []) (lenOf pd3 rfl) rfl rfl (Nat.le_of_eq rfl) (hb hby at_54)
      obtain ⟨rfl, Nq26, e26⟩ := hQ26
      have N26 := Fr.app N25 Nq26
      refine OGo.st st26 ?_
      show OGo p.tables e below Φ (T26.setTop (mkF m 57 #[.val (.int f), .val (.int q), .val (.int (1 : Int32)), .val (.int (1 : Int32)), .val (.int ((XT.ushr f (2 : Int32)) &&& (3 : Int32))), .val (.int (own_pick ((XT.ushr f (2 : Int32)) &&& (3 : Int32)) q)), .val (.ref b24), .unset, .unset] [(.int (own_bei (1 : Int32) (1 : Int32) (own_pick ((XT.ushr f (2 : Int32)) &&& (3 : Int32)) q)))]))
      refine OGo.st (fun _ k => XS.istore X26.here hx rfl (hb hby at_57) rfl (l' := #[.val (.int f), .val (.int q), .val (.int (1 : Int32)), .val (.int (1 : Int32)), .val (.int ((XT.ushr f (2 : Int32)) &&& (3 : Int32))), .val (.int (own_pick ((XT.ushr f (2 : Int32)) &&& (3 : Int32)) q)), .val (.ref b24), .val (.int (own_bei (1 : Int32) (1 : Int32) (own_pick ((XT.ushr f (2 : Int32)) &&& (3 : Int32)) q))), .unset]) rfl k) ?_
      show OGo p.tables e below Φ (T26.setTop (mkF m 59 #[.val (.int f), .val (.int q), .val (.int (1 : Int32)), .val (.int (1 : Int32)), .val (.int ((XT.ushr f (2 : Int32)) &&& (3 : Int32))), .val (.int (own_pick ((XT.ushr f (2 : Int32)) &&& (3 : Int32)) q)), .val (.ref b24), .val (.int (own_bei (1 : Int32) (1 : Int32) (own_pick ((XT.ushr f (2 : Int32)) &&& (3 : Int32)) q))), .unset] []))
      refine OGo.st (fun _ k => XS.iloadN X26.here hx rfl (hb hby at_59) rfl k) ?_
      show OGo p.tables e below Φ (T26.setTop (mkF m 60 #[.val (.int f), .val (.int q), .val (.int (1 : Int32)), .val (.int (1 : Int32)), .val (.int ((XT.ushr f (2 : Int32)) &&& (3 : Int32))), .val (.int (own_pick ((XT.ushr f (2 : Int32)) &&& (3 : Int32)) q)), .val (.ref b24), .val (.int (own_bei (1 : Int32) (1 : Int32) (own_pick ((XT.ushr f (2 : Int32)) &&& (3 : Int32)) q))), .unset] [(.int (1 : Int32))]))
      refine OGo.st (fun _ k => XS.ifYes X26.here hx rfl (pc0 := 60) (pc' := 69) rfl (hb hby at_60) rfl (XT.i0_ne_t (by decide)) (by decide) (by decide) k) ?_
      show OGo p.tables e below Φ (T26.setTop (mkF m 69 #[.val (.int f), .val (.int q), .val (.int (1 : Int32)), .val (.int (1 : Int32)), .val (.int ((XT.ushr f (2 : Int32)) &&& (3 : Int32))), .val (.int (own_pick ((XT.ushr f (2 : Int32)) &&& (3 : Int32)) q)), .val (.ref b24), .val (.int (own_bei (1 : Int32) (1 : Int32) (own_pick ((XT.ushr f (2 : Int32)) &&& (3 : Int32)) q))), .unset] []))
      refine OGo.st (fun _ k => XS.iload X26.here hx rfl (hb hby at_69) rfl k) ?_
      show OGo p.tables e below Φ (T26.setTop (mkF m 71 #[.val (.int f), .val (.int q), .val (.int (1 : Int32)), .val (.int (1 : Int32)), .val (.int ((XT.ushr f (2 : Int32)) &&& (3 : Int32))), .val (.int (own_pick ((XT.ushr f (2 : Int32)) &&& (3 : Int32)) q)), .val (.ref b24), .val (.int (own_bei (1 : Int32) (1 : Int32) (own_pick ((XT.ushr f (2 : Int32)) &&& (3 : Int32)) q))), .unset] [(.int (own_pick ((XT.ushr f (2 : Int32)) &&& (3 : Int32)) q))]))
      refine OGo.st (fun _ k => XS.bipush X26.here hx rfl (hb hby at_71) k) ?_
      show OGo p.tables e below Φ (T26.setTop (mkF m 73 #[.val (.int f), .val (.int q), .val (.int (1 : Int32)), .val (.int (1 : Int32)), .val (.int ((XT.ushr f (2 : Int32)) &&& (3 : Int32))), .val (.int (own_pick ((XT.ushr f (2 : Int32)) &&& (3 : Int32)) q)), .val (.ref b24), .val (.int (own_bei (1 : Int32) (1 : Int32) (own_pick ((XT.ushr f (2 : Int32)) &&& (3 : Int32)) q))), .unset] [(.int (39 : Int32)), (.int (own_pick ((XT.ushr f (2 : Int32)) &&& (3 : Int32)) q))]))
      by_cases hc27 : (own_pick ((XT.ushr f (2 : Int32)) &&& (3 : Int32)) q) = (39 : Int32)
      · refine OGo.st (fun _ k => XS.icmpNo X26.here hx rfl (hb hby at_73) rfl (XT.ii_ne_f hc27) k) ?_
        show OGo p.tables e below Φ (T26.setTop (mkF m 76 #[.val (.int f), .val (.int q), .val (.int (1 : Int32)), .val (.int (1 : Int32)), .val (.int ((XT.ushr f (2 : Int32)) &&& (3 : Int32))), .val (.int (own_pick ((XT.ushr f (2 : Int32)) &&& (3 : Int32)) q)), .val (.ref b24), .val (.int (own_bei (1 : Int32) (1 : Int32) (own_pick ((XT.ushr f (2 : Int32)) &&& (3 : Int32)) q))), .unset] []))
        refine OGo.st (fun _ k => XS.iconst X26.here hx rfl (hb hby at_76) k) ?_
        show OGo p.tables e below Φ (T26.setTop (mkF m 77 #[.val (.int f), .val (.int q), .val (.int (1 : Int32)), .val (.int (1 : Int32)), .val (.int ((XT.ushr f (2 : Int32)) &&& (3 : Int32))), .val (.int (own_pick ((XT.ushr f (2 : Int32)) &&& (3 : Int32)) q)), .val (.ref b24), .val (.int (own_bei (1 : Int32) (1 : Int32) (own_pick ((XT.ushr f (2 : Int32)) &&& (3 : Int32)) q))), .unset] [(.int (1 : Int32))]))
        refine OGo.st (fun _ k => XS.istore X26.here hx rfl (hb hby at_77) rfl (l' := #[.val (.int f), .val (.int q), .val (.int (1 : Int32)), .val (.int (1 : Int32)), .val (.int ((XT.ushr f (2 : Int32)) &&& (3 : Int32))), .val (.int (own_pick ((XT.ushr f (2 : Int32)) &&& (3 : Int32)) q)), .val (.ref b24), .val (.int (own_bei (1 : Int32) (1 : Int32) (own_pick ((XT.ushr f (2 : Int32)) &&& (3 : Int32)) q))), .val (.int (1 : Int32))]) rfl k) ?_
        show OGo p.tables e below Φ (T26.setTop (mkF m 79 #[.val (.int f), .val (.int q), .val (.int (1 : Int32)), .val (.int (1 : Int32)), .val (.int ((XT.ushr f (2 : Int32)) &&& (3 : Int32))), .val (.int (own_pick ((XT.ushr f (2 : Int32)) &&& (3 : Int32)) q)), .val (.ref b24), .val (.int (own_bei (1 : Int32) (1 : Int32) (own_pick ((XT.ushr f (2 : Int32)) &&& (3 : Int32)) q))), .val (.int (1 : Int32))] []))
        refine OGo.st (fun _ k => XS.goto X26.here hx rfl (pc0 := 79) (pc' := 106) rfl (hb hby at_79) (by decide) (by decide) k) ?_
        show OGo p.tables e below Φ (T26.setTop (mkF m 106 #[.val (.int f), .val (.int q), .val (.int (1 : Int32)), .val (.int (1 : Int32)), .val (.int ((XT.ushr f (2 : Int32)) &&& (3 : Int32))), .val (.int (own_pick ((XT.ushr f (2 : Int32)) &&& (3 : Int32)) q)), .val (.ref b24), .val (.int (own_bei (1 : Int32) (1 : Int32) (own_pick ((XT.ushr f (2 : Int32)) &&& (3 : Int32)) q))), .val (.int (1 : Int32))] []))
        refine OGo.st (fun _ k => XS.iload X26.here hx rfl (hb hby at_106) rfl k) ?_
        show OGo p.tables e below Φ (T26.setTop (mkF m 108 #[.val (.int f), .val (.int q), .val (.int (1 : Int32)), .val (.int (1 : Int32)), .val (.int ((XT.ushr f (2 : Int32)) &&& (3 : Int32))), .val (.int (own_pick ((XT.ushr f (2 : Int32)) &&& (3 : Int32)) q)), .val (.ref b24), .val (.int (own_bei (1 : Int32) (1 : Int32) (own_pick ((XT.ushr f (2 : Int32)) &&& (3 : Int32)) q))), .val (.int (1 : Int32))] [(.int (own_bei (1 : Int32) (1 : Int32) (own_pick ((XT.ushr f (2 : Int32)) &&& (3 : Int32)) q)))]))
        refine OGo.st (fun _ k => XS.iload X26.here hx rfl (hb hby at_108) rfl k) ?_
        show OGo p.tables e below Φ (T26.setTop (mkF m 110 #[.val (.int f), .val (.int q), .val (.int (1 : Int32)), .val (.int (1 : Int32)), .val (.int ((XT.ushr f (2 : Int32)) &&& (3 : Int32))), .val (.int (own_pick ((XT.ushr f (2 : Int32)) &&& (3 : Int32)) q)), .val (.ref b24), .val (.int (own_bei (1 : Int32) (1 : Int32) (own_pick ((XT.ushr f (2 : Int32)) &&& (3 : Int32)) q))), .val (.int (1 : Int32))] [(.int (1 : Int32)), (.int (own_bei (1 : Int32) (1 : Int32) (own_pick ((XT.ushr f (2 : Int32)) &&& (3 : Int32)) q)))]))
        by_cases hc28 : (own_bei (1 : Int32) (1 : Int32) (own_pick ((XT.ushr f (2 : Int32)) &&& (3 : Int32)) q)) = (1 : Int32)
        · refine OGo.st (fun _ k => XS.icmpNo X26.here hx rfl (hb hby at_110) rfl (XT.ii_ne_f hc28) k) ?_
          show OGo p.tables e below Φ (T26.setTop (mkF m 113 #[.val (.int f), .val (.int q), .val (.int (1 : Int32)), .val (.int (1 : Int32)), .val (.int ((XT.ushr f (2 : Int32)) &&& (3 : Int32))), .val (.int (own_pick ((XT.ushr f (2 : Int32)) &&& (3 : Int32)) q)), .val (.ref b24), .val (.int (own_bei (1 : Int32) (1 : Int32) (own_pick ((XT.ushr f (2 : Int32)) &&& (3 : Int32)) q))), .val (.int (1 : Int32))] []))
          refine OGo.st (fun _ k => XS.iconst X26.here hx rfl (hb hby at_113) k) ?_
          show OGo p.tables e below Φ (T26.setTop (mkF m 114 #[.val (.int f), .val (.int q), .val (.int (1 : Int32)), .val (.int (1 : Int32)), .val (.int ((XT.ushr f (2 : Int32)) &&& (3 : Int32))), .val (.int (own_pick ((XT.ushr f (2 : Int32)) &&& (3 : Int32)) q)), .val (.ref b24), .val (.int (own_bei (1 : Int32) (1 : Int32) (own_pick ((XT.ushr f (2 : Int32)) &&& (3 : Int32)) q))), .val (.int (1 : Int32))] [(.int (1 : Int32))]))
          refine OGo.st (fun _ k => XS.goto X26.here hx rfl (pc0 := 114) (pc' := 118) rfl (hb hby at_114) (by decide) (by decide) k) ?_
          show OGo p.tables e below Φ (T26.setTop (mkF m 118 #[.val (.int f), .val (.int q), .val (.int (1 : Int32)), .val (.int (1 : Int32)), .val (.int ((XT.ushr f (2 : Int32)) &&& (3 : Int32))), .val (.int (own_pick ((XT.ushr f (2 : Int32)) &&& (3 : Int32)) q)), .val (.ref b24), .val (.int (own_bei (1 : Int32) (1 : Int32) (own_pick ((XT.ushr f (2 : Int32)) &&& (3 : Int32)) q))), .val (.int (1 : Int32))] [(.int (1 : Int32))]))
          refine OGo.fin X26 hlk (v := (some (.int (1 : Int32)))) (fun h => by rw [hret] at h; cases h) (by decide) (by decide) (fun fs hr => X26.ireturnOut hx hret rfl (by simp) (hb hby at_118) hr) fun U eU hF => hΦ _ _ _ ?_ hF
          rw [eU, e26]
          show Q_rm0 Z f q h0 n0 _ _ _
          exact ⟨rfl, N26⟩
        · refine OGo.st (fun _ k => XS.icmpYes X26.here hx rfl (pc0 := 110) (pc' := 117) rfl (hb hby at_110) rfl (XT.ii_ne_t hc28) (by decide) (by decide) k) ?_
          show OGo p.tables e below Φ (T26.setTop (mkF m 117 #[.val (.int f), .val (.int q), .val (.int (1 : Int32)), .val (.int (1 : Int32)), .val (.int ((XT.ushr f (2 : Int32)) &&& (3 : Int32))), .val (.int (own_pick ((XT.ushr f (2 : Int32)) &&& (3 : Int32)) q)), .val (.ref b24), .val (.int (own_bei (1 : Int32) (1 : Int32) (own_pick ((XT.ushr f (2 : Int32)) &&& (3 : Int32)) q))), .val (.int (1 : Int32))] []))
          refine OGo.st (fun _ k => XS.iconst X26.here hx rfl (hb hby at_117) k) ?_
          show OGo p.tables e below Φ (T26.setTop (mkF m 118 #[.val (.int f), .val (.int q), .val (.int (1 : Int32)), .val (.int (1 : Int32)), .val (.int ((XT.ushr f (2 : Int32)) &&& (3 : Int32))), .val (.int (own_pick ((XT.ushr f (2 : Int32)) &&& (3 : Int32)) q)), .val (.ref b24), .val (.int (own_bei (1 : Int32) (1 : Int32) (own_pick ((XT.ushr f (2 : Int32)) &&& (3 : Int32)) q))), .val (.int (1 : Int32))] [(.int (0 : Int32))]))
          exact absurd (by simp [own_bei, hc1, hc13, hc27]) hc28
      · refine OGo.st (fun _ k => XS.icmpYes X26.here hx rfl (pc0 := 73) (pc' := 82) rfl (hb hby at_73) rfl (XT.ii_ne_t hc27) (by decide) (by decide) k) ?_
        show OGo p.tables e below Φ (T26.setTop (mkF m 82 #[.val (.int f), .val (.int q), .val (.int (1 : Int32)), .val (.int (1 : Int32)), .val (.int ((XT.ushr f (2 : Int32)) &&& (3 : Int32))), .val (.int (own_pick ((XT.ushr f (2 : Int32)) &&& (3 : Int32)) q)), .val (.ref b24), .val (.int (own_bei (1 : Int32) (1 : Int32) (own_pick ((XT.ushr f (2 : Int32)) &&& (3 : Int32)) q))), .unset] []))
        refine OGo.st (fun _ k => XS.iload X26.here hx rfl (hb hby at_82) rfl k) ?_
        show OGo p.tables e below Φ (T26.setTop (mkF m 84 #[.val (.int f), .val (.int q), .val (.int (1 : Int32)), .val (.int (1 : Int32)), .val (.int ((XT.ushr f (2 : Int32)) &&& (3 : Int32))), .val (.int (own_pick ((XT.ushr f (2 : Int32)) &&& (3 : Int32)) q)), .val (.ref b24), .val (.int (own_bei (1 : Int32) (1 : Int32) (own_pick ((XT.ushr f (2 : Int32)) &&& (3 : Int32)) q))), .unset] [(.int (own_pick ((XT.ushr f (2 : Int32)) &&& (3 : Int32)) q))]))
        refine OGo.st (fun _ k => XS.bipush X26.here hx rfl (hb hby at_84) k) ?_
        show OGo p.tables e below Φ (T26.setTop (mkF m 86 #[.val (.int f), .val (.int q), .val (.int (1 : Int32)), .val (.int (1 : Int32)), .val (.int ((XT.ushr f (2 : Int32)) &&& (3 : Int32))), .val (.int (own_pick ((XT.ushr f (2 : Int32)) &&& (3 : Int32)) q)), .val (.ref b24), .val (.int (own_bei (1 : Int32) (1 : Int32) (own_pick ((XT.ushr f (2 : Int32)) &&& (3 : Int32)) q))), .unset] [(.int (34 : Int32)), (.int (own_pick ((XT.ushr f (2 : Int32)) &&& (3 : Int32)) q))]))
        by_cases hc29 : (own_pick ((XT.ushr f (2 : Int32)) &&& (3 : Int32)) q) = (34 : Int32)
        · refine OGo.st (fun _ k => XS.icmpNo X26.here hx rfl (hb hby at_86) rfl (XT.ii_ne_f hc29) k) ?_
          show OGo p.tables e below Φ (T26.setTop (mkF m 89 #[.val (.int f), .val (.int q), .val (.int (1 : Int32)), .val (.int (1 : Int32)), .val (.int ((XT.ushr f (2 : Int32)) &&& (3 : Int32))), .val (.int (own_pick ((XT.ushr f (2 : Int32)) &&& (3 : Int32)) q)), .val (.ref b24), .val (.int (own_bei (1 : Int32) (1 : Int32) (own_pick ((XT.ushr f (2 : Int32)) &&& (3 : Int32)) q))), .unset] []))
          refine OGo.st (fun _ k => XS.iloadN X26.here hx rfl (hb hby at_89) rfl k) ?_
          show OGo p.tables e below Φ (T26.setTop (mkF m 90 #[.val (.int f), .val (.int q), .val (.int (1 : Int32)), .val (.int (1 : Int32)), .val (.int ((XT.ushr f (2 : Int32)) &&& (3 : Int32))), .val (.int (own_pick ((XT.ushr f (2 : Int32)) &&& (3 : Int32)) q)), .val (.ref b24), .val (.int (own_bei (1 : Int32) (1 : Int32) (own_pick ((XT.ushr f (2 : Int32)) &&& (3 : Int32)) q))), .unset] [(.int (1 : Int32))]))
          refine OGo.st (fun _ k => XS.ifYes X26.here hx rfl (pc0 := 90) (pc' := 97) rfl (hb hby at_90) rfl (XT.i0_ne_t (by decide)) (by decide) (by decide) k) ?_
          show OGo p.tables e below Φ (T26.setTop (mkF m 97 #[.val (.int f), .val (.int q), .val (.int (1 : Int32)), .val (.int (1 : Int32)), .val (.int ((XT.ushr f (2 : Int32)) &&& (3 : Int32))), .val (.int (own_pick ((XT.ushr f (2 : Int32)) &&& (3 : Int32)) q)), .val (.ref b24), .val (.int (own_bei (1 : Int32) (1 : Int32) (own_pick ((XT.ushr f (2 : Int32)) &&& (3 : Int32)) q))), .unset] []))
          refine OGo.st (fun _ k => XS.iconst X26.here hx rfl (hb hby at_97) k) ?_
          show OGo p.tables e below Φ (T26.setTop (mkF m 98 #[.val (.int f), .val (.int q), .val (.int (1 : Int32)), .val (.int (1 : Int32)), .val (.int ((XT.ushr f (2 : Int32)) &&& (3 : Int32))), .val (.int (own_pick ((XT.ushr f (2 : Int32)) &&& (3 : Int32)) q)), .val (.ref b24), .val (.int (own_bei (1 : Int32) (1 : Int32) (own_pick ((XT.ushr f (2 : Int32)) &&& (3 : Int32)) q))), .unset] [(.int (0 : Int32))]))
          refine OGo.st (fun _ k => XS.istore X26.here hx rfl (hb hby at_98) rfl (l' := #[.val (.int f), .val (.int q), .val (.int (1 : Int32)), .val (.int (1 : Int32)), .val (.int ((XT.ushr f (2 : Int32)) &&& (3 : Int32))), .val (.int (own_pick ((XT.ushr f (2 : Int32)) &&& (3 : Int32)) q)), .val (.ref b24), .val (.int (own_bei (1 : Int32) (1 : Int32) (own_pick ((XT.ushr f (2 : Int32)) &&& (3 : Int32)) q))), .val (.int (0 : Int32))]) rfl k) ?_
          show OGo p.tables e below Φ (T26.setTop (mkF m 100 #[.val (.int f), .val (.int q), .val (.int (1 : Int32)), .val (.int (1 : Int32)), .val (.int ((XT.ushr f (2 : Int32)) &&& (3 : Int32))), .val (.int (own_pick ((XT.ushr f (2 : Int32)) &&& (3 : Int32)) q)), .val (.ref b24), .val (.int (own_bei (1 : Int32) (1 : Int32) (own_pick ((XT.ushr f (2 : Int32)) &&& (3 : Int32)) q))), .val (.int (0 : Int32))] []))
          refine OGo.st (fun _ k => XS.goto X26.here hx rfl (pc0 := 100) (pc' := 106) rfl (hb hby at_100) (by decide) (by decide) k) ?_
          show OGo p.tables e below Φ (T26.setTop (mkF m 106 #[.val (.int f), .val (.int q), .val (.int (1 : Int32)), .val (.int (1 : Int32)), .val (.int ((XT.ushr f (2 : Int32)) &&& (3 : Int32))), .val (.int (own_pick ((XT.ushr f (2 : Int32)) &&& (3 : Int32)) q)), .val (.ref b24), .val (.int (own_bei (1 : Int32) (1 : Int32) (own_pick ((XT.ushr f (2 : Int32)) &&& (3 : Int32)) q))), .val (.int (0 : Int32))] []))
          refine OGo.st (fun _ k => XS.iload X26.here hx rfl (hb hby at_106) rfl k) ?_
          show OGo p.tables e below Φ (T26.setTop (mkF m 108 #[.val (.int f), .val (.int q), .val (.int (1 : Int32)), .val (.int (1 : Int32)), .val (.int ((XT.ushr f (2 : Int32)) &&& (3 : Int32))), .val (.int (own_pick ((XT.ushr f (2 : Int32)) &&& (3 : Int32)) q)), .val (.ref b24), .val (.int (own_bei (1 : Int32) (1 : Int32) (own_pick ((XT.ushr f (2 : Int32)) &&& (3 : Int32)) q))), .val (.int (0 : Int32))] [(.int (own_bei (1 : Int32) (1 : Int32) (own_pick ((XT.ushr f (2 : Int32)) &&& (3 : Int32)) q)))]))
          refine OGo.st (fun _ k => XS.iload X26.here hx rfl (hb hby at_108) rfl k) ?_
          show OGo p.tables e below Φ (T26.setTop (mkF m 110 #[.val (.int f), .val (.int q), .val (.int (1 : Int32)), .val (.int (1 : Int32)), .val (.int ((XT.ushr f (2 : Int32)) &&& (3 : Int32))), .val (.int (own_pick ((XT.ushr f (2 : Int32)) &&& (3 : Int32)) q)), .val (.ref b24), .val (.int (own_bei (1 : Int32) (1 : Int32) (own_pick ((XT.ushr f (2 : Int32)) &&& (3 : Int32)) q))), .val (.int (0 : Int32))] [(.int (0 : Int32)), (.int (own_bei (1 : Int32) (1 : Int32) (own_pick ((XT.ushr f (2 : Int32)) &&& (3 : Int32)) q)))]))
          by_cases hc30 : (own_bei (1 : Int32) (1 : Int32) (own_pick ((XT.ushr f (2 : Int32)) &&& (3 : Int32)) q)) = (0 : Int32)
          · refine OGo.st (fun _ k => XS.icmpNo X26.here hx rfl (hb hby at_110) rfl (XT.ii_ne_f hc30) k) ?_
            show OGo p.tables e below Φ (T26.setTop (mkF m 113 #[.val (.int f), .val (.int q), .val (.int (1 : Int32)), .val (.int (1 : Int32)), .val (.int ((XT.ushr f (2 : Int32)) &&& (3 : Int32))), .val (.int (own_pick ((XT.ushr f (2 : Int32)) &&& (3 : Int32)) q)), .val (.ref b24), .val (.int (own_bei (1 : Int32) (1 : Int32) (own_pick ((XT.ushr f (2 : Int32)) &&& (3 : Int32)) q))), .val (.int (0 : Int32))] []))
            refine OGo.st (fun _ k => XS.iconst X26.here hx rfl (hb hby at_113) k) ?_
            show OGo p.tables e below Φ (T26.setTop (mkF m 114 #[.val (.int f), .val (.int q), .val (.int (1 : Int32)), .val (.int (1 : Int32)), .val (.int ((XT.ushr f (2 : Int32)) &&& (3 : Int32))), .val (.int (own_pick ((XT.ushr f (2 : Int32)) &&& (3 : Int32)) q)), .val (.ref b24), .val (.int (own_bei (1 : Int32) (1 : Int32) (own_pick ((XT.ushr f (2 : Int32)) &&& (3 : Int32)) q))), .val (.int (0 : Int32))] [(.int (1 : Int32))]))
            refine OGo.st (fun _ k => XS.goto X26.here hx rfl (pc0 := 114) (pc' := 118) rfl (hb hby at_114) (by decide) (by decide) k) ?_
            show OGo p.tables e below Φ (T26.setTop (mkF m 118 #[.val (.int f), .val (.int q), .val (.int (1 : Int32)), .val (.int (1 : Int32)), .val (.int ((XT.ushr f (2 : Int32)) &&& (3 : Int32))), .val (.int (own_pick ((XT.ushr f (2 : Int32)) &&& (3 : Int32)) q)), .val (.ref b24), .val (.int (own_bei (1 : Int32) (1 : Int32) (own_pick ((XT.ushr f (2 : Int32)) &&& (3 : Int32)) q))), .val (.int (0 : Int32))] [(.int (1 : Int32))]))
            refine OGo.fin X26 hlk (v := (some (.int (1 : Int32)))) (fun h => by rw [hret] at h; cases h) (by decide) (by decide) (fun fs hr => X26.ireturnOut hx hret rfl (by simp) (hb hby at_118) hr) fun U eU hF => hΦ _ _ _ ?_ hF
            rw [eU, e26]
            show Q_rm0 Z f q h0 n0 _ _ _
            exact ⟨rfl, N26⟩
          · refine OGo.st (fun _ k => XS.icmpYes X26.here hx rfl (pc0 := 110) (pc' := 117) rfl (hb hby at_110) rfl (XT.ii_ne_t hc30) (by decide) (by decide) k) ?_
            show OGo p.tables e below Φ (T26.setTop (mkF m 117 #[.val (.int f), .val (.int q), .val (.int (1 : Int32)), .val (.int (1 : Int32)), .val (.int ((XT.ushr f (2 : Int32)) &&& (3 : Int32))), .val (.int (own_pick ((XT.ushr f (2 : Int32)) &&& (3 : Int32)) q)), .val (.ref b24), .val (.int (own_bei (1 : Int32) (1 : Int32) (own_pick ((XT.ushr f (2 : Int32)) &&& (3 : Int32)) q))), .val (.int (0 : Int32))] []))
            refine OGo.st (fun _ k => XS.iconst X26.here hx rfl (hb hby at_117) k) ?_
            show OGo p.tables e below Φ (T26.setTop (mkF m 118 #[.val (.int f), .val (.int q), .val (.int (1 : Int32)), .val (.int (1 : Int32)), .val (.int ((XT.ushr f (2 : Int32)) &&& (3 : Int32))), .val (.int (own_pick ((XT.ushr f (2 : Int32)) &&& (3 : Int32)) q)), .val (.ref b24), .val (.int (own_bei (1 : Int32) (1 : Int32) (own_pick ((XT.ushr f (2 : Int32)) &&& (3 : Int32)) q))), .val (.int (0 : Int32))] [(.int (0 : Int32))]))
            exact absurd (by simp [own_bei, hc1, hc13, hc27, hc29]) hc30
        · refine OGo.st (fun _ k => XS.icmpYes X26.here hx rfl (pc0 := 86) (pc' := 103) rfl (hb hby at_86) rfl (XT.ii_ne_t hc29) (by decide) (by decide) k) ?_
          show OGo p.tables e below Φ (T26.setTop (mkF m 103 #[.val (.int f), .val (.int q), .val (.int (1 : Int32)), .val (.int (1 : Int32)), .val (.int ((XT.ushr f (2 : Int32)) &&& (3 : Int32))), .val (.int (own_pick ((XT.ushr f (2 : Int32)) &&& (3 : Int32)) q)), .val (.ref b24), .val (.int (own_bei (1 : Int32) (1 : Int32) (own_pick ((XT.ushr f (2 : Int32)) &&& (3 : Int32)) q))), .unset] []))
          refine OGo.st (fun _ k => XS.iconst X26.here hx rfl (hb hby at_103) k) ?_
          show OGo p.tables e below Φ (T26.setTop (mkF m 104 #[.val (.int f), .val (.int q), .val (.int (1 : Int32)), .val (.int (1 : Int32)), .val (.int ((XT.ushr f (2 : Int32)) &&& (3 : Int32))), .val (.int (own_pick ((XT.ushr f (2 : Int32)) &&& (3 : Int32)) q)), .val (.ref b24), .val (.int (own_bei (1 : Int32) (1 : Int32) (own_pick ((XT.ushr f (2 : Int32)) &&& (3 : Int32)) q))), .unset] [(.int (0 : Int32))]))
          refine OGo.st (fun _ k => XS.istore X26.here hx rfl (hb hby at_104) rfl (l' := #[.val (.int f), .val (.int q), .val (.int (1 : Int32)), .val (.int (1 : Int32)), .val (.int ((XT.ushr f (2 : Int32)) &&& (3 : Int32))), .val (.int (own_pick ((XT.ushr f (2 : Int32)) &&& (3 : Int32)) q)), .val (.ref b24), .val (.int (own_bei (1 : Int32) (1 : Int32) (own_pick ((XT.ushr f (2 : Int32)) &&& (3 : Int32)) q))), .val (.int (0 : Int32))]) rfl k) ?_
          show OGo p.tables e below Φ (T26.setTop (mkF m 106 #[.val (.int f), .val (.int q), .val (.int (1 : Int32)), .val (.int (1 : Int32)), .val (.int ((XT.ushr f (2 : Int32)) &&& (3 : Int32))), .val (.int (own_pick ((XT.ushr f (2 : Int32)) &&& (3 : Int32)) q)), .val (.ref b24), .val (.int (own_bei (1 : Int32) (1 : Int32) (own_pick ((XT.ushr f (2 : Int32)) &&& (3 : Int32)) q))), .val (.int (0 : Int32))] []))
          refine OGo.st (fun _ k => XS.iload X26.here hx rfl (hb hby at_106) rfl k) ?_
          show OGo p.tables e below Φ (T26.setTop (mkF m 108 #[.val (.int f), .val (.int q), .val (.int (1 : Int32)), .val (.int (1 : Int32)), .val (.int ((XT.ushr f (2 : Int32)) &&& (3 : Int32))), .val (.int (own_pick ((XT.ushr f (2 : Int32)) &&& (3 : Int32)) q)), .val (.ref b24), .val (.int (own_bei (1 : Int32) (1 : Int32) (own_pick ((XT.ushr f (2 : Int32)) &&& (3 : Int32)) q))), .val (.int (0 : Int32))] [(.int (own_bei (1 : Int32) (1 : Int32) (own_pick ((XT.ushr f (2 : Int32)) &&& (3 : Int32)) q)))]))
          refine OGo.st (fun _ k => XS.iload X26.here hx rfl (hb hby at_108) rfl k) ?_
          show OGo p.tables e below Φ (T26.setTop (mkF m 110 #[.val (.int f), .val (.int q), .val (.int (1 : Int32)), .val (.int (1 : Int32)), .val (.int ((XT.ushr f (2 : Int32)) &&& (3 : Int32))), .val (.int (own_pick ((XT.ushr f (2 : Int32)) &&& (3 : Int32)) q)), .val (.ref b24), .val (.int (own_bei (1 : Int32) (1 : Int32) (own_pick ((XT.ushr f (2 : Int32)) &&& (3 : Int32)) q))), .val (.int (0 : Int32))] [(.int (0 : Int32)), (.int (own_bei (1 : Int32) (1 : Int32) (own_pick ((XT.ushr f (2 : Int32)) &&& (3 : Int32)) q)))]))
          by_cases hc31 : (own_bei (1 : Int32) (1 : Int32) (own_pick ((XT.ushr f (2 : Int32)) &&& (3 : Int32)) q)) = (0 : Int32)
          · refine OGo.st (fun _ k => XS.icmpNo X26.here hx rfl (hb hby at_110) rfl (XT.ii_ne_f hc31) k) ?_
            show OGo p.tables e below Φ (T26.setTop (mkF m 113 #[.val (.int f), .val (.int q), .val (.int (1 : Int32)), .val (.int (1 : Int32)), .val (.int ((XT.ushr f (2 : Int32)) &&& (3 : Int32))), .val (.int (own_pick ((XT.ushr f (2 : Int32)) &&& (3 : Int32)) q)), .val (.ref b24), .val (.int (own_bei (1 : Int32) (1 : Int32) (own_pick ((XT.ushr f (2 : Int32)) &&& (3 : Int32)) q))), .val (.int (0 : Int32))] []))
            refine OGo.st (fun _ k => XS.iconst X26.here hx rfl (hb hby at_113) k) ?_
            show OGo p.tables e below Φ (T26.setTop (mkF m 114 #[.val (.int f), .val (.int q), .val (.int (1 : Int32)), .val (.int (1 : Int32)), .val (.int ((XT.ushr f (2 : Int32)) &&& (3 : Int32))), .val (.int (own_pick ((XT.ushr f (2 : Int32)) &&& (3 : Int32)) q)), .val (.ref b24), .val (.int (own_bei (1 : Int32) (1 : Int32) (own_pick ((XT.ushr f (2 : Int32)) &&& (3 : Int32)) q))), .val (.int (0 : Int32))] [(.int (1 : Int32))]))
            refine OGo.st (fun _ k => XS.goto X26.here hx rfl (pc0 := 114) (pc' := 118) rfl (hb hby at_114) (by decide) (by decide) k) ?_
            show OGo p.tables e below Φ (T26.setTop (mkF m 118 #[.val (.int f), .val (.int q), .val (.int (1 : Int32)), .val (.int (1 : Int32)), .val (.int ((XT.ushr f (2 : Int32)) &&& (3 : Int32))), .val (.int (own_pick ((XT.ushr f (2 : Int32)) &&& (3 : Int32)) q)), .val (.ref b24), .val (.int (own_bei (1 : Int32) (1 : Int32) (own_pick ((XT.ushr f (2 : Int32)) &&& (3 : Int32)) q))), .val (.int (0 : Int32))] [(.int (1 : Int32))]))
            refine OGo.fin X26 hlk (v := (some (.int (1 : Int32)))) (fun h => by rw [hret] at h; cases h) (by decide) (by decide) (fun fs hr => X26.ireturnOut hx hret rfl (by simp) (hb hby at_118) hr) fun U eU hF => hΦ _ _ _ ?_ hF
            rw [eU, e26]
            show Q_rm0 Z f q h0 n0 _ _ _
            exact ⟨rfl, N26⟩
          · refine OGo.st (fun _ k => XS.icmpYes X26.here hx rfl (pc0 := 110) (pc' := 117) rfl (hb hby at_110) rfl (XT.ii_ne_t hc31) (by decide) (by decide) k) ?_
            show OGo p.tables e below Φ (T26.setTop (mkF m 117 #[.val (.int f), .val (.int q), .val (.int (1 : Int32)), .val (.int (1 : Int32)), .val (.int ((XT.ushr f (2 : Int32)) &&& (3 : Int32))), .val (.int (own_pick ((XT.ushr f (2 : Int32)) &&& (3 : Int32)) q)), .val (.ref b24), .val (.int (own_bei (1 : Int32) (1 : Int32) (own_pick ((XT.ushr f (2 : Int32)) &&& (3 : Int32)) q))), .val (.int (0 : Int32))] []))
            refine OGo.st (fun _ k => XS.iconst X26.here hx rfl (hb hby at_117) k) ?_
            show OGo p.tables e below Φ (T26.setTop (mkF m 118 #[.val (.int f), .val (.int q), .val (.int (1 : Int32)), .val (.int (1 : Int32)), .val (.int ((XT.ushr f (2 : Int32)) &&& (3 : Int32))), .val (.int (own_pick ((XT.ushr f (2 : Int32)) &&& (3 : Int32)) q)), .val (.ref b24), .val (.int (own_bei (1 : Int32) (1 : Int32) (own_pick ((XT.ushr f (2 : Int32)) &&& (3 : Int32)) q))), .val (.int (0 : Int32))] [(.int (0 : Int32))]))
            exact absurd (by simp [own_bei, hc1, hc13, hc27, hc29]) hc31

set_option maxRecDepth 65536 in
set_option maxHeartbeats 40000000 in
theorem comes_1 {Post : Tables → Env → Array Value → State → Outcome → State → Prop} (hpost : ∀ tb e args s v u, (limb_1_1.after args s (.returned v) u = true ∧ limb_1_2.after args s (.returned v) u = true ∧ True) → FrameEnd s (.returned v) u (Jvm.fieldLocs frame_1_writes args s ++ Jvm.arrayLocs frame_1_arrays args s ++ Jvm.staticLocs frame_1_statics s) 16 128 → Post tb e args s (.returned v) u) :
    ArmFor flags0 classFile x code maxLocals ret World_1 tables_1 room_1 Calls_1 rest_1 Pre_1 Post := by
  intro l hfl _ _ p e ha hc hk s m args below hf hA hF happ hP
  obtain ⟨hcalls, hrest, hpre⟩ := hP
  obtain ⟨-, -, -, hnamed, -, -, -, hat⟩ := (Spec.applies_iff hf).mp happ
  obtain ⟨hg, hn⟩ := and_e (Cond.before_iff.mp (show (Jvm.Cond.and given_1 narrow_1).before args s = true from hpre))
  obtain ⟨g0, r0⟩ := and_e hg
  obtain ⟨k0, r1⟩ := and_e r0
  have k1 := r1
  obtain ⟨w0, w1, rfl⟩ : ∃ w0 w1 : Value, args = #[w0, w1] := by
    have hs : args.size = 2 := by simpa [Cond.value, given_1] using g0
    obtain ⟨L⟩ := args
    match L, hs with
    | [w0, w1], _ => exact ⟨w0, w1, rfl⟩
  have hw := fun d (hd : d ∈ tables_1) => atoms_spec (ws := Jvm.Cond.code x code maxLocals ret :: tables_1) hat d (List.mem_cons_of_mem _ hd)
  have hfit : Fit s := fun {y c} hc i hi => by
    obtain ⟨ha, rfl⟩ := Array.getElem?_eq_some_iff.mp hc
    have q := List.all_eq_true.mp ((Array.all_eq_true_iff_forall_mem.mp hF) _ (Array.getElem_mem ha)) i (List.mem_range.mpr hi)
    simpa [Array.getElem?_eq_getElem hi] using q
  obtain ⟨i0, ei0⟩ := is_v k0
  obtain rfl : w0 = (.int i0) := Option.some.inj ei0
  obtain ⟨i1, ei1⟩ := is_v k1
  obtain rfl : w1 = (.int i1) := Option.some.inj ei1
  obtain ⟨n, o, h1, h2, h3, _, L, rfl, ⟨rfl, N⟩, hq⟩ := rm0 l s _ hw tables_1 i0 i1  s.heap s.heap.size (Nat.le_refl _)  p e ha hc hk s m _ below hf ((Spec.applies_iff_loose hf).mp happ).1 ⟨rfl, State.Warmed39.refl s, rfl⟩ trivial
  refine ⟨n, _, h1, h2, h3, hpost _ _ _ _ _ _ ⟨Cond.after_iff.mpr rfl, Cond.after_iff.mpr (eq_i res_at (Term.int_eval (1)) rfl), trivial⟩ ⟨hq.1, hq.2.1, (hq.2.2.sift fun y hy => Or.inr (N y hy)).mono (by decide) (by decide)⟩⟩
theorem main_1_1 : Claimed_1_1 := comes_1 fun _ _ _ _ _ _ h hF => ⟨h.1, hF⟩
theorem main_1_2 : Claimed_1_2 := comes_1 fun _ _ _ _ _ _ h hF => ⟨h.2.1, hF⟩
end Jvm.Pilot.@@N@@
namespace Jvm.Pilot.@@N@@
open Jvm Jvm.ClassFile Sem Op Lib Jvm.Free Jvm.Stand Jvm.Pilot.@@N@@.Jvm.D
/-! MADE BY PROGRAM (witnessworld.py) out of the Statement's table words and the real class files: 10 classes; the members and pool entries that the words name. The judged class is class 1, her method 2. -/
namespace start1
open Jvm.ClassFile
def u (s : String) : CpInfo := .utf8 (stringToUtf16 s)
/-- a pool by its gaps: so many unusable entries, then the entry; so many at the end -/
def gap : Nat → List CpInfo → List CpInfo
  | 0, r => r
  | n + 1, r => .unusable :: gap n r
def poolList (es : List (Nat × CpInfo)) (last : Nat) : List CpInfo := es.foldr (fun e r => gap e.1 (e.2 :: r)) (gap last [])
def pool (es : List (Nat × CpInfo)) (last : Nat) : Array CpInfo := ⟨poolList es last⟩
def fileOf (pool : Array CpInfo) (this : Nat) (attrs : Array Attribute := #[]) (ms : Array MethodInfo := #[]) (fl : Nat := 33) (sup : Nat := 0) (ifs : Array Nat := #[]) (fds : Array FieldInfo := #[]) : ClassFile where
  minorVersion := 0
  majorVersion := 65
  constantPool := pool
  accessFlags := fl
  thisClass := this
  superClass := sup
  interfaces := ifs
  fields := fds
  methods := ms
  attributes := attrs
def plain (name : String) (sup : Option ClassId) : Class where
  name := name
  kind := .ordinary
  loader := none
  accessFlags := 33
  super := sup
  interfaces := #[]
  cf := none
  fields := #[]
  methods := #[]
  instanceTypes := #[]
  staticTypes := #[]
  resolved := #[]
  callSites := []
  init := .initialized
  statics := none
  mirror := none

def pool0 : Array CpInfo := pool [(5, u "<init>"), (0, u "()V"), (1, .class_ 10), (1, u "java/lang/Object")] 113

def k0c0 : Code := { maxStack := 0, maxLocals := 1, code := object_method_1_code, exceptionTable := #[], attributes := #[] }
def k0m0 : Method := { name := "<init>", desc := "()V", sig := { parameters := [], returnType := none }, accessFlags := 1, code := some k0c0 }
/-- java/lang/Object -/
def k0 : Class := { plain "java/lang/Object" none with
  accessFlags := 33
  interfaces := #[]
  cf := some (fileOf pool0 8 #[] #[{ accessFlags := 1, nameIndex := 5, descriptorIndex := 6, attributes := #[] }] 33 0 #[] #[])
  fields := #[]
  methods := #[k0m0]
  instanceTypes := #[]
  staticTypes := #[]
  resolved := Array.replicate 124 none
  statics := none }

def pool1 : Array CpInfo := pool [(2, .class_ 4), (1, u "java/lang/Object"), (0, u "<init>"), (0, u "()V"), (0, .integer 65535), (0, .methodref 9 10), (0, .class_ 11), (0, .nameAndType 12 13), (0, u "com/example/orderly_migration/orderlymigration/core/QuotingBackslashEscapesInPinLaw"), (0, u "pickQuote"), (0, u "(II)C"), (0, .class_ 15), (0, u "com/example/orderly_migration/orderlymigration/core/Quoting"), (0, .methodref 14 17), (0, .nameAndType 5 18), (0, u "(ZZ)V"), (0, .methodref 14 20), (0, .nameAndType 21 22), (0, u "backslashEscapesIn"), (0, u "(C)Z"), (3, u "law"), (0, u "(II)Z")] 2

def k1m0 : Method := { name := "<init>", desc := "()V", sig := { parameters := [], returnType := none }, accessFlags := 1, code := none }
def k1c1 : Code := { maxStack := 2, maxLocals := 2, code := method_2_code, exceptionTable := #[], attributes := #[] }
def k1m1 : Method := { name := "pickQuote", desc := "(II)C", sig := { parameters := [.int, .int], returnType := some .char }, accessFlags := 10, code := some k1c1 }
def k1c2 : Code := { maxStack := 4, maxLocals := 9, code := code, exceptionTable := #[], attributes := #[] }
def k1m2 : Method := { name := "law", desc := "(II)Z", sig := { parameters := [.int, .int], returnType := some .boolean }, accessFlags := 9, code := some k1c2 }
/-- com/example/orderly_migration/orderlymigration/core/QuotingBackslashEscapesInPinLaw -/
def k1 : Class := { plain "com/example/orderly_migration/orderlymigration/core/QuotingBackslashEscapesInPinLaw" (some 0) with
  accessFlags := 49
  interfaces := #[]
  cf := some (fileOf pool1 9 #[] #[{ accessFlags := 1, nameIndex := 5, descriptorIndex := 6, attributes := #[] }, { accessFlags := 10, nameIndex := 12, descriptorIndex := 13, attributes := #[] }, { accessFlags := 9, nameIndex := 26, descriptorIndex := 27, attributes := #[] }] 49 2 #[] #[])
  fields := #[]
  methods := #[k1m0, k1m1, k1m2]
  instanceTypes := #[]
  staticTypes := #[]
  resolved := Array.replicate 30 none
  statics := none }

def pool2 : Array CpInfo := pool [(1, .methodref 2 3), (0, .class_ 4), (0, .nameAndType 5 6), (0, u "java/lang/Object"), (0, u "<init>"), (0, u "()V"), (0, .class_ 8), (0, u "java/lang/Record")] 13

def k2c0 : Code := { maxStack := 1, maxLocals := 1, code := jdk_30_method_1_code, exceptionTable := #[], attributes := #[] }
def k2m0 : Method := { name := "<init>", desc := "()V", sig := { parameters := [], returnType := none }, accessFlags := 4, code := some k2c0 }
/-- java/lang/Record -/
def k2 : Class := { plain "java/lang/Record" (some 0) with
  accessFlags := 1057
  interfaces := #[]
  cf := some (fileOf pool2 7 #[] #[{ accessFlags := 4, nameIndex := 5, descriptorIndex := 6, attributes := #[] }] 1057 2 #[] #[])
  fields := #[]
  methods := #[k2m0]
  instanceTypes := #[]
  staticTypes := #[]
  resolved := Array.replicate 22 none
  statics := none }

def pool3 : Array CpInfo := pool [(1, .methodref 2 3), (0, .class_ 4), (0, .nameAndType 5 6), (0, u "java/lang/Record"), (0, u "<init>"), (0, u "()V"), (0, .fieldref 8 9), (0, .class_ 10), (0, .nameAndType 11 12), (0, u "com/example/orderly_migration/orderlymigration/core/Quoting"), (0, u "backslashEscapes"), (0, u "Z"), (0, .fieldref 8 14), (0, .nameAndType 15 12), (0, u "doubleQuotedNames"), (12, u "(ZZ)V"), (3, u "backslashEscapesIn"), (0, u "(C)Z")] 26

def k3c0 : Code := { maxStack := 2, maxLocals := 3, code := prog_41_method_1_code, exceptionTable := #[], attributes := #[] }
def k3m0 : Method := { name := "<init>", desc := "(ZZ)V", sig := { parameters := [.boolean, .boolean], returnType := none }, accessFlags := 1, code := some k3c0 }
def k3c1 : Code := { maxStack := 2, maxLocals := 2, code := prog_41_method_2_code, exceptionTable := #[], attributes := #[] }
def k3m1 : Method := { name := "backslashEscapesIn", desc := "(C)Z", sig := { parameters := [.char], returnType := some .boolean }, accessFlags := 0, code := some k3c1 }
/-- com/example/orderly_migration/orderlymigration/core/Quoting -/
def k3 : Class := { plain "com/example/orderly_migration/orderlymigration/core/Quoting" (some 2) with
  accessFlags := 49
  interfaces := #[]
  cf := some (fileOf pool3 8 #[] #[{ accessFlags := 1, nameIndex := 5, descriptorIndex := 28, attributes := #[] }, { accessFlags := 0, nameIndex := 32, descriptorIndex := 33, attributes := #[] }] 49 2 #[] #[{ accessFlags := 18, nameIndex := 11, descriptorIndex := 12, attributes := #[] }, { accessFlags := 18, nameIndex := 15, descriptorIndex := 12, attributes := #[] }])
  fields := #[{ name := "backslashEscapes", type := .boolean, accessFlags := 18, slot := 0, constantValue := 0 }, { name := "doubleQuotedNames", type := .boolean, accessFlags := 18, slot := 1, constantValue := 0 }]
  methods := #[k3m0, k3m1]
  instanceTypes := #[.boolean, .boolean]
  staticTypes := #[]
  resolved := Array.replicate 60 none
  statics := none }

def pool4 : Array CpInfo := pool [(1, u "java/lang/Cloneable"), (0, .class_ 1), (0, u "java/lang/Object"), (0, .class_ 3)] 3

/-- java/lang/Cloneable -/
def k4 : Class := { plain "java/lang/Cloneable" (some 0) with
  accessFlags := 1537
  interfaces := #[]
  cf := some (fileOf pool4 2 #[] #[] 1537 4 #[] #[])
  fields := #[]
  methods := #[]
  instanceTypes := #[]
  staticTypes := #[]
  resolved := Array.replicate 8 none
  statics := none }

def pool5 : Array CpInfo := pool [(1, u "java/io/Serializable"), (0, .class_ 1), (0, u "java/lang/Object"), (0, .class_ 3)] 3

/-- java/io/Serializable -/
def k5 : Class := { plain "java/io/Serializable" (some 0) with
  accessFlags := 1537
  interfaces := #[]
  cf := some (fileOf pool5 2 #[] #[] 1537 4 #[] #[])
  fields := #[]
  methods := #[]
  instanceTypes := #[]
  staticTypes := #[]
  resolved := Array.replicate 8 none
  statics := none }

/-- the primitive byte -/
def k6 : Class := { plain "byte" none with kind := .primitive 'B', accessFlags := 0x411 }
/-- [B -/
def k7 : Class := { plain "[B" (some 0) with kind := .array 6 .byte, interfaces := #[4, 5], accessFlags := 1041 }

/-- the primitive int -/
def k8 : Class := { plain "int" none with kind := .primitive 'I', accessFlags := 0x411 }
/-- [I -/
def k9 : Class := { plain "[I" (some 0) with kind := .array 8 .int, interfaces := #[4, 5], accessFlags := 1041 }

def heap : Heap := #[]
def classes : Array Class := #[k0, k1, k2, k3, k4, k5, k6, k7, k8, k9]
def interned : List (Array UInt16 × Addr) := []
def slotsUsed : Nat := 0
def theMethod : MethodId := ⟨1, 2⟩
def args0 : Array Value := #[.int 5, .int 5]
def aboutOver (below : List Frame) : State where
  vm := { classes := classes, interned := interned.toArray }
  heap := heap
  slotsUsed := slotsUsed
  threads := #[{ frames := .invoking theMethod args0 :: below }]
def below0 : List Frame := [.native { method := ⟨0, 0⟩, args := #[] }]
def about1 : State := aboutOver below0
def p0 : Program := .bare "" "" ""
def e0 : Env := launch0.env 0 0 0
theorem w_frames : about1.frames = Frame.invoking theMethod args0 :: below0 := rfl
set_option maxRecDepth 65536 in
theorem w_args : argsFit about1.vm theMethod args0 = true := by decide +kernel
set_option maxRecDepth 65536 in
theorem w_heap : heapFits about1 = true := by decide +kernel
set_option maxRecDepth 65536 in
theorem w_runnable : about1.curStatus? = some .runnable := by decide +kernel
set_option maxRecDepth 65536 in
theorem w_alone : about1.alone = true := by decide +kernel
set_option maxRecDepth 65536 in
theorem w_named : about1.methodNamed? x = some theMethod := by decide +kernel
set_option maxRecDepth 65536 in
theorem w_hears : about1.hears theMethod below0 = true := by decide +kernel
set_option maxRecDepth 65536 in
theorem w_ripe : about1.ripe theMethod args0 below0 = true := by decide +kernel
theorem w_running : about1.status = .running := rfl
set_option maxRecDepth 65536 in
theorem w_room : about1.hasRoom e0.platform room_1 = true :=
  launch0.hasRoom_least _ room_1 (by decide +kernel) (by decide +kernel) (by decide +kernel) (by decide +kernel) (by decide +kernel) (by decide +kernel)
theorem allAtoms_all (ts : List Jvm.Cond) (a : Array Jvm.Value) (st : Jvm.State) : (allAtoms ts).before a st = ts.all (fun c => c.before a st) := by
  induction ts with
  | nil => rfl
  | cons c t ih =>
    show (Jvm.Cond.and c (allAtoms t)).before a st = _
    rw [Jvm.Cond.before_and, ih, List.all_cons]
def words1 : List Jvm.Cond := Jvm.Cond.code x code maxLocals ret :: tables_1
/-- a 'code' word, met by the world's own term for the bytes: nothing is compared byte by byte -/
theorem code_word {y : MethodName} {bytes : ByteArray} {mx : Nat} {rt : Option FieldType} {a : Array Value} {s : State} {m : MethodId} {meth : Method} {c : Code} (h1 : s.methodNamed? y = some m) (h2 : s.vm.method? m = some meth) (h3 : meth.code = some c) (h4 : c.code = bytes)
    (h5 : (c.maxLocals == mx && c.exceptionTable.isEmpty && decide (c.maxStack ≤ mostOperands) && decide (meth.sig.returnType = rt) && !meth.locks && decide (parseMethodDescriptor y.desc = some meth.sig)) = true) : (Jvm.Cond.code y bytes mx rt).before a s = true := by
  simp only [Bool.and_eq_true, beq_iff_eq, Bool.not_eq_true', decide_eq_true_eq] at h5
  obtain ⟨⟨⟨⟨⟨g1, g2⟩, g3⟩, g4⟩, g5⟩, g6⟩ := h5
  simp [Cond.before, Cond.holds, Cond.value, h1, h2, h3, h4, g1, g2, g3, g4, g5, g6]
def isCode : Jvm.Cond → Bool
  | .code _ _ _ _ => true
  | _ => false
theorem all_split {L : List Jvm.Cond} {P : Jvm.Cond → Bool} (h1 : L.all (fun c => isCode c || P c) = true) (h2 : ∀ c ∈ L.filter isCode, P c = true) : L.all P = true := by
  refine List.all_eq_true.mpr fun c hc => ?_
  have h := List.all_eq_true.mp h1 c hc
  rcases Bool.eq_false_or_eq_true (isCode c) with hi | hi
  · exact h2 c (List.mem_filter.mpr ⟨hc, hi⟩)
  · simpa [hi] using h
set_option maxRecDepth 65536 in
theorem w_c0 : (Jvm.Cond.code x code maxLocals ret).before args0 about1 = true := code_word (m := ⟨1, 2⟩) (meth := k1m2) (c := k1c2) (by decide +kernel) rfl rfl rfl (by decide +kernel)
set_option maxRecDepth 65536 in
theorem w_c1 : (Jvm.Cond.code ({ cls := "com/example/orderly_migration/orderlymigration/core/QuotingBackslashEscapesInPinLaw", name := "pickQuote", desc := "(II)C" } : Jvm.MethodName) method_2_code (2 : Nat) (Option.some Jvm.ClassFile.FieldType.char)).before args0 about1 = true := code_word (m := ⟨1, 1⟩) (meth := k1m1) (c := k1c1) (by decide +kernel) rfl rfl rfl (by decide +kernel)
set_option maxRecDepth 65536 in
theorem w_c2 : (Jvm.Cond.code ({ cls := "com/example/orderly_migration/orderlymigration/core/Quoting", name := "<init>", desc := "(ZZ)V" } : Jvm.MethodName) prog_41_method_1_code (3 : Nat) (Option.none : Option Jvm.ClassFile.FieldType)).before args0 about1 = true := code_word (m := ⟨3, 0⟩) (meth := k3m0) (c := k3c0) (by decide +kernel) rfl rfl rfl (by decide +kernel)
set_option maxRecDepth 65536 in
theorem w_c3 : (Jvm.Cond.code ({ cls := "java/lang/Record", name := "<init>", desc := "()V" } : Jvm.MethodName) jdk_30_method_1_code (1 : Nat) (Option.none : Option Jvm.ClassFile.FieldType)).before args0 about1 = true := code_word (m := ⟨2, 0⟩) (meth := k2m0) (c := k2c0) (by decide +kernel) rfl rfl rfl (by decide +kernel)
set_option maxRecDepth 65536 in
theorem w_c4 : (Jvm.Cond.code ({ cls := "java/lang/Object", name := "<init>", desc := "()V" } : Jvm.MethodName) object_method_1_code (1 : Nat) (Option.none : Option Jvm.ClassFile.FieldType)).before args0 about1 = true := code_word (m := ⟨0, 0⟩) (meth := k0m0) (c := k0c0) (by decide +kernel) rfl rfl rfl (by decide +kernel)
set_option maxRecDepth 65536 in
theorem w_c5 : (Jvm.Cond.code ({ cls := "com/example/orderly_migration/orderlymigration/core/Quoting", name := "backslashEscapesIn", desc := "(C)Z" } : Jvm.MethodName) prog_41_method_2_code (2 : Nat) (Option.some Jvm.ClassFile.FieldType.boolean)).before args0 about1 = true := code_word (m := ⟨3, 1⟩) (meth := k3m1) (c := k3c1) (by decide +kernel) rfl rfl rfl (by decide +kernel)
def codes1 : List Jvm.Cond := [Jvm.Cond.code x code maxLocals ret, Jvm.Cond.code ({ cls := "com/example/orderly_migration/orderlymigration/core/QuotingBackslashEscapesInPinLaw", name := "pickQuote", desc := "(II)C" } : Jvm.MethodName) method_2_code (2 : Nat) (Option.some Jvm.ClassFile.FieldType.char), Jvm.Cond.code ({ cls := "com/example/orderly_migration/orderlymigration/core/Quoting", name := "<init>", desc := "(ZZ)V" } : Jvm.MethodName) prog_41_method_1_code (3 : Nat) (Option.none : Option Jvm.ClassFile.FieldType), Jvm.Cond.code ({ cls := "java/lang/Record", name := "<init>", desc := "()V" } : Jvm.MethodName) jdk_30_method_1_code (1 : Nat) (Option.none : Option Jvm.ClassFile.FieldType), Jvm.Cond.code ({ cls := "java/lang/Object", name := "<init>", desc := "()V" } : Jvm.MethodName) object_method_1_code (1 : Nat) (Option.none : Option Jvm.ClassFile.FieldType), Jvm.Cond.code ({ cls := "com/example/orderly_migration/orderlymigration/core/Quoting", name := "backslashEscapesIn", desc := "(C)Z" } : Jvm.MethodName) prog_41_method_2_code (2 : Nat) (Option.some Jvm.ClassFile.FieldType.boolean)]
set_option maxRecDepth 65536 in
theorem codes_eq : words1.filter isCode = codes1 := rfl
theorem w_codes : ∀ c ∈ words1.filter isCode, c.before args0 about1 = true := by
  rw [codes_eq]
  intro c hc
  simp only [codes1, List.mem_cons, List.not_mem_nil, or_false] at hc
  rcases hc with rfl | rfl | rfl | rfl | rfl | rfl
  · exact w_c0
  · exact w_c1
  · exact w_c2
  · exact w_c3
  · exact w_c4
  · exact w_c5
set_option maxRecDepth 65536 in
theorem w_t1 : (words1.take 24).all (fun c => isCode c || c.before args0 about1) = true := by decide +kernel
set_option maxRecDepth 65536 in
theorem w_t2 : (words1.drop 24).all (fun c => isCode c || c.before args0 about1) = true := by decide +kernel
theorem w_tables : (allAtoms (Jvm.Cond.code x code maxLocals ret :: tables_1)).before args0 about1 = true := by
  rw [allAtoms_all]
  show words1.all (fun c => c.before args0 about1) = true
  refine all_split ?_ w_codes
  rw [← List.take_append_drop 24 words1, List.all_append, w_t1, w_t2]
  rfl
set_option maxRecDepth 65536 in
theorem w_case : (Jvm.Cond.and given_1 narrow_1).before args0 about1 = true := by decide +kernel
theorem w_applies : (headSpec (Jvm.Cond.code x code maxLocals ret :: tables_1) room_1).applies x e0.platform about1 = true :=
  (Spec.applies_iff w_frames).mpr ⟨w_running, w_runnable, w_alone, w_named, w_hears, w_ripe, w_room, w_tables⟩
theorem atStart : AtStart classFile x code maxLocals ret World_1 tables_1 room_1 Calls_1 rest_1 Pre_1 launch0 p0 e0 about1 theMethod args0 below0 :=
  ⟨lists_1, trivial, launch0.admits_env _ _ _, launch0.least_env, fairChoices_fair.cas, fairChoices_fair.clock, w_frames, w_args, w_heap, w_applies, trivial, trivial, w_case⟩
end start1
theorem witness_1 : WitnessClaimed_1 := ⟨start1.p0, start1.e0, start1.about1, start1.theMethod, start1.args0, start1.below0, start1.atStart⟩
end Jvm.Pilot.@@N@@
