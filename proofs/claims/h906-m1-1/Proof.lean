import JvmDerived
import JvmDerived.Pilot.@@N@@Statement
import JvmDerived.Pilot.@@N@@Code
set_option linter.unusedVariables false
set_option linter.unusedSimpArgs false
namespace Jvm.Pilot.@@N@@
open Jvm Jvm.ClassFile Sem Op Lib Jvm.Free Jvm.Stand Jvm.LawKit Jvm.RoadKit Bundle Jvm.Pilot.@@N@@.Jvm.D
section Own
variable {p : Program} {l : Launch} {e : Env} {R : Room} {s : State} {m : MethodId} {args : Array Value} {below : List Frame} {meth : Method} {c : Code} {T : State} {locs : List Loc} {cells slots : Nat} {Z : State} {a0 : Array Value} {h : Heap} {Φ : Outcome → State → Prop}
/-- what is left of a walk: from S the invocation ends as Φ says -/
def OGo (tb : Tables) (e : Env) (below : List Frame) (Φ : Outcome → State → Prop) (S : State) : Prop := ∃ s₂ o, Steps tb e below S s₂ ∧ s₂.status = .running ∧ Ended s₂ below o ∧ Φ o s₂
theorem OGo.st {tb : Tables} {S S' : State} (h : ∀ t, Steps tb e below S' t → Steps tb e below S t) (g : OGo tb e below Φ S') : OGo tb e below Φ S := by
  obtain ⟨s₂, o, h1, r⟩ := g
  exact ⟨s₂, o, h _ h1, r⟩
theorem OGo.fin (X : Stand p l e R s m args below meth c T locs cells slots) (hlk : meth.locks = false) {v : Option Value} (hv : meth.sig.returnType = none → v = none) {g : JFrame} {k n : Nat} (hk : cells ≤ k) (hn : slots ≤ n)
    (st : ∀ fs, (∀ (f : JFrame) (acts : List Action), f.method = m → f.locked = none → f.entered = [] → (doReturn e (T.setTop f) acts v).1 = T.setFrames fs) → Steps p.tables e below (T.setTop g) (T.setFrames fs))
    (hq : ∀ U, U.heap = T.heap → FrameEnd s (.returned v) U locs k n → Φ (.returned v) U) : OGo p.tables e below Φ (T.setTop g) := by
  obtain ⟨fs, hr, hrun, hended, hW, hsame⟩ := X.leave (v := v) hv hlk
  exact ⟨_, _, st fs hr, hrun, hended, hq _ rfl ⟨⟨_, rfl⟩, hW, hsame.mono hk hn⟩⟩
/-- a contract: what every body's theorem says -/
abbrev OCon (l : Launch) (Z : State) (y : MethodName) (bytes : ByteArray) (maxL : Nat) (ret : Option FieldType) (ws : List Jvm.Cond) (rm : Room) (as' : Array Value) (h0 : Heap) (Q : Option Value → Heap → List Loc → Prop) : Prop :=
  MetFree l y (head1 (Jvm.Cond.code y bytes maxL ret :: ws) rm) (fun a U => a = as' ∧ Z.Warmed39 U.vm ∧ U.heap = h0) (fun _ _ _ _ _ => True) (fun _ U o U' => ∃ v L, o = .returned v ∧ Q v U'.heap L ∧ FrameEnd U o U' L rm.cells rm.slots)
theorem OCon.of {y : MethodName} {bytes : ByteArray} {maxL : Nat} {ret : Option FieldType} {ws : List Jvm.Cond} {rm : Room} {as' : Array Value} {h0 : Heap} {Q : Option Value → Heap → List Loc → Prop} (hpn : plainName y.cls = true)
    (H : ∀ (p : Program) (e : Env) (s : State) (m : MethodId) (below : List Frame) (meth : Method) (c : Code) (s₁ : State) (Φ : Outcome → State → Prop), Stand p l e rm s m as' below meth c s₁ [] 0 0 → p.tables.exec = Jvm.exec → c.code = bytes → c.maxLocals = maxL → s.vm.findClass y.cls = some m.cls → meth.name = y.name → meth.sig.returnType = ret → meth.locks = false → Z.Warmed39 s.vm → s₁.heap = h0 →
      (∀ v L U, Q v U.heap L → FrameEnd s (.returned v) U L rm.cells rm.slots → Φ (.returned v) U) → OGo p.tables e below Φ (s₁.setTop (entryFrame m as' maxL))) :
    OCon l Z y bytes maxL ret ws rm as' h0 Q := by
  refine MetFree.of_bodySF (plainFor_of_name hpn) hisR ?_
  intro p e s m args below meth c s₁ Bd hml0 hP hK
  obtain ⟨rfl, hZ, hh⟩ := hP
  have e0 : s₁.heap = h0 := by rw [← hh, Bd.state]; rfl
  exact H p e s m below meth c s₁ _ (Stand.of_body Bd) Bd.exec Bd.bytes hml0 (findClass_of_methodNamed Bd.named) (name_of_methodNamed Bd.named Bd.method).1 Bd.returns Bd.notSynchronized hZ e0 (fun v L U hq hf => ⟨v, L, rfl, hq, hf⟩)
theorem own_callSt (X : Stand p l e R s m args below meth c T locs cells slots) (hx : p.tables.exec = Jvm.exec) (hZ : Z.Warmed39 s.vm) {own : String} {index : Nat} {y : MethodName} {bytes : ByteArray} {maxL : Nat} {ret : Option FieldType} {rm : Room} {as' : Array Value} {Q : Option Value → Heap → List Loc → Prop}
    (hown : s.vm.findClass own = some m.cls) (w1 : (Jvm.Cond.methodLink own index y).before a0 Z = true) (w2 : (Jvm.Cond.static y).before a0 Z = true) (w3 : (Jvm.Cond.initialized y.cls).before a0 Z = true) (w4 : (Jvm.Cond.code y bytes maxL ret).before a0 Z = true) (hy : y.cls ≠ "java/lang/invoke/MethodHandle" ∧ y.cls ≠ "java/lang/invoke/VarHandle")
    (hM : OCon l Z y bytes maxL ret [] rm as' h Q) (eT : T.heap = h) {W : Nat} (hf : rm.frames + 1 ≤ R.frames) (hl : W + (maxL + 11) + rm.locals ≤ R.locals) (hcl : cells + rm.cells ≤ R.cells) (hsl : slots + rm.slots ≤ R.slots)
    {pc : Nat} {ls : Array Slot} {stk : List Value} (hsize : ls.size = c.maxLocals) {argsL rest : List Value} (hlen : ∀ sig, parseMethodDescriptor y.desc = some sig → argsL.length = sig.parameters.length) (has : argsL.toArray = as') (hstack : stk = argsL.reverse ++ rest) (hW : (rest.map fun v => v.category).sum ≤ W)
    (hd : decode c.code pc = .ok (.invokestatic index, 3)) :
    ∃ v T' L, Stand p l e R s m args below meth c T' (locs ++ L) (cells + rm.cells) (slots + rm.slots) ∧ Q v T'.heap L ∧ ∀ target, Steps p.tables e below (T'.setTop (mkF m (pc + 3) ls (v.toList ++ rest))) target → Steps p.tables e below (T.setTop (mkF m pc ls stk)) target := by
  subst has
  obtain ⟨v, vm₁, ⟨T', L', k', n'⟩, -, X', ⟨L, hQ, l1, y1, z1⟩, st⟩ := Jvm.LawKit.callS X hx (y := y) hown (mvT hZ w1) (mvT hZ w2) (mvT hZ w3) (mvT hZ w4) hy (backOf (W := W) hM hZ w4 w3 hf hl) (g := mkF m pc ls stk) rfl hsize (argsL := argsL) (rest := rest) hlen hstack (by simpa using hW) hd (fun _ _ => ⟨rfl, eT, hcl, hsl⟩)
  dsimp only [Pt.U, Pt.locs, Pt.cells, Pt.slots] at X' l1 y1 z1 st hQ
  subst l1 y1 z1
  exact ⟨v, T', L, X', hQ, st⟩
theorem own_callSp (X : Stand p l e R s m args below meth c T locs cells slots) (hx : p.tables.exec = Jvm.exec) (hZ : Z.Warmed39 s.vm) {own : String} {index : Nat} {y : MethodName} {bytes : ByteArray} {maxL : Nat} {rm : Room} {as' : Array Value} {Q : Option Value → Heap → List Loc → Prop}
    (hy1 : y.name = "<init>") (hown : s.vm.findClass own = some m.cls) (w1 : (Jvm.Cond.methodLink own index y).before a0 Z = true) (w2 : (Jvm.Cond.instanceMethod y).before a0 Z = true) (w3 : (Jvm.Cond.initialized y.cls).before a0 Z = true) (w4 : (Jvm.Cond.code y bytes maxL none).before a0 Z = true) (hy : y.cls ≠ "java/lang/invoke/MethodHandle" ∧ y.cls ≠ "java/lang/invoke/VarHandle")
    (hM : OCon l Z y bytes maxL none [] rm as' h Q) (eT : T.heap = h) {W : Nat} (hf : rm.frames + 1 ≤ R.frames) (hl : W + (maxL + 11) + rm.locals ≤ R.locals) (hcl : cells + rm.cells ≤ R.cells) (hsl : slots + rm.slots ≤ R.slots)
    {pc : Nat} {ls : Array Slot} {stk : List Value} (hsize : ls.size = c.maxLocals) {a : Addr} {argsL rest : List Value} (hlen : ∀ sig, parseMethodDescriptor y.desc = some sig → argsL.length = sig.parameters.length) (has : (.ref a :: argsL).toArray = as') (hstack : stk = argsL.reverse ++ .ref a :: rest) (hW : (rest.map fun v => v.category).sum ≤ W)
    (hd : decode c.code pc = .ok (.invokespecial index, 3)) :
    ∃ v T' L, Stand p l e R s m args below meth c T' (locs ++ L) (cells + rm.cells) (slots + rm.slots) ∧ Q v T'.heap L ∧ ∀ target, Steps p.tables e below (T'.setTop (mkF m (pc + 3) ls (v.toList ++ rest))) target → Steps p.tables e below (T.setTop (mkF m pc ls stk)) target := by
  subst has
  obtain ⟨v, vm₁, ⟨T', L', k', n'⟩, -, X', ⟨L, hQ, l1, y1, z1⟩, st⟩ := X.specialBack hx (y := y) hy1 hown (mvT hZ w1) (mvT hZ w2) (mvT hZ w4) hy (backOf (W := W) hM hZ w4 w3 hf hl) (g := mkF m pc ls stk) rfl hsize (Steps.refl _) (a := a) (argsL := argsL) (rest := rest) hlen hstack (by simpa using hW) hd (fun _ _ => ⟨rfl, eT, hcl, hsl⟩)
  dsimp only [Pt.U, Pt.locs, Pt.cells, Pt.slots] at X' l1 y1 z1 st hQ
  subst l1 y1 z1
  exact ⟨v, T', L, X', hQ, fun t k => st.trans k⟩
theorem own_callVi (X : Stand p l e R s m args below meth c T locs cells slots) (hx : p.tables.exec = Jvm.exec) (hZ : Z.Warmed39 s.vm) {own C : String} {index : Nat} {y z : MethodName} {bytes : ByteArray} {maxL : Nat} {ret : Option FieldType} {rm : Room} {as' : Array Value} {Q : Option Value → Heap → List Loc → Prop}
    (hown : s.vm.findClass own = some m.cls) (w1 : (Jvm.Cond.methodLink own index y).before a0 Z = true) (w2 : (Jvm.Cond.declares y).before a0 Z = true) (nf : NotFace s y) (w3 : (Jvm.Cond.selects C y z).before a0 Z = true) (w4 : (Jvm.Cond.instanceMethod z).before a0 Z = true) (w5 : (Jvm.Cond.initialized z.cls).before a0 Z = true) (w6 : (Jvm.Cond.code z bytes maxL ret).before a0 Z = true) (hy : y.cls ≠ "java/lang/invoke/MethodHandle" ∧ y.cls ≠ "java/lang/invoke/VarHandle")
    (hM : OCon l Z z bytes maxL ret [] rm as' h Q) (eT : T.heap = h) {W : Nat} (hf : rm.frames + 1 ≤ R.frames) (hl : W + (maxL + 11) + rm.locals ≤ R.locals) (hcl : cells + rm.cells ≤ R.cells) (hsl : slots + rm.slots ≤ R.slots) {a : Addr} (E : Exa Z h a C)
    {pc : Nat} {ls : Array Slot} {stk : List Value} (hsize : ls.size = c.maxLocals) {argsL rest : List Value} (hlen : ∀ sig, parseMethodDescriptor y.desc = some sig → argsL.length = sig.parameters.length) (has : (.ref a :: argsL).toArray = as') (hstack : stk = argsL.reverse ++ .ref a :: rest) (hW : (rest.map fun v => v.category).sum ≤ W)
    (hd : decode c.code pc = .ok (.invokevirtual index, 3)) :
    ∃ v T' L, Stand p l e R s m args below meth c T' (locs ++ L) (cells + rm.cells) (slots + rm.slots) ∧ Q v T'.heap L ∧ ∀ target, Steps p.tables e below (T'.setTop (mkF m (pc + 3) ls (v.toList ++ rest))) target → Steps p.tables e below (T.setTop (mkF m pc ls stk)) target := by
  subst has
  obtain ⟨cq, kq, qa, qb, qc⟩ := isOf hZ eT E
  obtain ⟨v, vm₁, ⟨T', L', k', n'⟩, -, X', ⟨L, hQ, l1, y1, z1⟩, st⟩ := X.virtualBack hx (y := y) (z := z) hown (mvT hZ w1) (mvT hZ w2) nf (mvT hZ w3) (mvT hZ w4) hy (backOf (W := W) hM hZ w6 w5 hf hl) qa qc (g := mkF m pc ls stk) rfl hsize (Steps.refl _) (argsL := argsL) (rest := rest) hlen hstack (by simpa using hW) hd (fun _ _ => ⟨rfl, eT, hcl, hsl⟩)
  dsimp only [Pt.U, Pt.locs, Pt.cells, Pt.slots] at X' l1 y1 z1 st hQ
  subst l1 y1 z1
  exact ⟨v, T', L, X', hQ, fun t k => st.trans k⟩
theorem own_nz {x : Int32} (q : x = 0 ∨ x = 1) : narrow .boolean (.int x) = .int x := by rcases q with rfl | rfl <;> rfl
theorem own_fz {x : Int32} (q : x = 0 ∨ x = 1) : fits .boolean (.int x) = true := by rcases q with rfl | rfl <;> rfl
theorem own_irr (x : Int32) : ¬ x < x := fun q => absurd (Int32.lt_iff_toInt_lt.mp q) (Int.lt_irrefl _)
theorem own_irrL (x : Int64) : ¬ x < x := fun q => absurd (Int64.lt_iff_toInt_lt.mp q) (Int.lt_irrefl _)
/-- a small int is one of the first n -/
theorem own_small {n : Nat} (hn : n < 2 ^ 31) (x : Int32) (h0 : ¬ x < 0) (h1 : x.toInt < n) : ∃ k : Fin n, x = Int32.ofInt k.val := by
  have h2 : 0 ≤ x.toInt := by
    rcases Int.lt_or_le x.toInt 0 with q | q
    · exact absurd (Int32.lt_iff_toInt_lt.mpr q) h0
    · exact q
  refine ⟨⟨x.toInt.toNat, by omega⟩, ?_⟩
  rw [Int.toNat_of_nonneg h2, Int32.ofInt_toInt]
end Own
theorem ow0 {Z : State} {a0 : Array Value} (hw : ∀ d ∈ tables_1, d.before a0 Z = true) : (Jvm.Cond.classLink "com/example/hydromeme/hydromeme/PipeLineHasStatusPinLaw" (7 : Nat) "com/example/hydromeme/hydromeme/NetworkFile$PipeLine").before a0 Z = true := hw _ (List.mem_of_getElem? (i := 0) rfl)
theorem ow1 {Z : State} {a0 : Array Value} (hw : ∀ d ∈ tables_1, d.before a0 Z = true) : (Jvm.Cond.instantiable "com/example/hydromeme/hydromeme/NetworkFile$PipeLine" (5 : Nat)).before a0 Z = true := hw _ (List.mem_of_getElem? (i := 1) rfl)
theorem ow2 {Z : State} {a0 : Array Value} (hw : ∀ d ∈ tables_1, d.before a0 Z = true) : (Jvm.Cond.initialized "com/example/hydromeme/hydromeme/NetworkFile$PipeLine").before a0 Z = true := hw _ (List.mem_of_getElem? (i := 2) rfl)
theorem ow3 {Z : State} {a0 : Array Value} (hw : ∀ d ∈ tables_1, d.before a0 Z = true) : (Jvm.Cond.methodLink "com/example/hydromeme/hydromeme/PipeLineHasStatusPinLaw" (9 : Nat) ({ cls := "com/example/hydromeme/hydromeme/NetworkFile$PipeLine", name := "<init>", desc := "(IIIII)V" } : Jvm.MethodName)).before a0 Z = true := hw _ (List.mem_of_getElem? (i := 3) rfl)
theorem ow4 {Z : State} {a0 : Array Value} (hw : ∀ d ∈ tables_1, d.before a0 Z = true) : (Jvm.Cond.instanceMethod ({ cls := "com/example/hydromeme/hydromeme/NetworkFile$PipeLine", name := "<init>", desc := "(IIIII)V" } : Jvm.MethodName)).before a0 Z = true := hw _ (List.mem_of_getElem? (i := 4) rfl)
theorem ow5 {Z : State} {a0 : Array Value} (hw : ∀ d ∈ tables_1, d.before a0 Z = true) : (Jvm.Cond.code ({ cls := "com/example/hydromeme/hydromeme/NetworkFile$PipeLine", name := "<init>", desc := "(IIIII)V" } : Jvm.MethodName) prog_38_method_1_code (6 : Nat) (Option.none : Option Jvm.ClassFile.FieldType)).before a0 Z = true := hw _ (List.mem_of_getElem? (i := 5) rfl)
theorem ow6 {Z : State} {a0 : Array Value} (hw : ∀ d ∈ tables_1, d.before a0 Z = true) : (Jvm.Cond.methodLink "com/example/hydromeme/hydromeme/NetworkFile$PipeLine" (1 : Nat) ({ cls := "java/lang/Record", name := "<init>", desc := "()V" } : Jvm.MethodName)).before a0 Z = true := hw _ (List.mem_of_getElem? (i := 6) rfl)
theorem ow7 {Z : State} {a0 : Array Value} (hw : ∀ d ∈ tables_1, d.before a0 Z = true) : (Jvm.Cond.instanceMethod ({ cls := "java/lang/Record", name := "<init>", desc := "()V" } : Jvm.MethodName)).before a0 Z = true := hw _ (List.mem_of_getElem? (i := 7) rfl)
theorem ow9 {Z : State} {a0 : Array Value} (hw : ∀ d ∈ tables_1, d.before a0 Z = true) : (Jvm.Cond.initialized "java/lang/Record").before a0 Z = true := hw _ (List.mem_of_getElem? (i := 9) rfl)
theorem ow10 {Z : State} {a0 : Array Value} (hw : ∀ d ∈ tables_1, d.before a0 Z = true) : (Jvm.Cond.code ({ cls := "java/lang/Record", name := "<init>", desc := "()V" } : Jvm.MethodName) jdk_30_method_1_code (1 : Nat) (Option.none : Option Jvm.ClassFile.FieldType)).before a0 Z = true := hw _ (List.mem_of_getElem? (i := 10) rfl)
theorem ow11 {Z : State} {a0 : Array Value} (hw : ∀ d ∈ tables_1, d.before a0 Z = true) : (Jvm.Cond.methodLink "java/lang/Record" (1 : Nat) ({ cls := "java/lang/Object", name := "<init>", desc := "()V" } : Jvm.MethodName)).before a0 Z = true := hw _ (List.mem_of_getElem? (i := 11) rfl)
theorem ow12 {Z : State} {a0 : Array Value} (hw : ∀ d ∈ tables_1, d.before a0 Z = true) : (Jvm.Cond.instanceMethod ({ cls := "java/lang/Object", name := "<init>", desc := "()V" } : Jvm.MethodName)).before a0 Z = true := hw _ (List.mem_of_getElem? (i := 12) rfl)
theorem ow13 {Z : State} {a0 : Array Value} (hw : ∀ d ∈ tables_1, d.before a0 Z = true) : (Jvm.Cond.code ({ cls := "java/lang/Object", name := "<init>", desc := "()V" } : Jvm.MethodName) object_method_1_code (1 : Nat) (Option.none : Option Jvm.ClassFile.FieldType)).before a0 Z = true := hw _ (List.mem_of_getElem? (i := 13) rfl)
theorem ow14 {Z : State} {a0 : Array Value} (hw : ∀ d ∈ tables_1, d.before a0 Z = true) : (Jvm.Cond.fieldLink "com/example/hydromeme/hydromeme/NetworkFile$PipeLine" (7 : Nat) "com/example/hydromeme/hydromeme/NetworkFile$PipeLine" "line" "I").before a0 Z = true := hw _ (List.mem_of_getElem? (i := 14) rfl)
theorem ow15 {Z : State} {a0 : Array Value} (hw : ∀ d ∈ tables_1, d.before a0 Z = true) : (Jvm.Cond.laysFinal "com/example/hydromeme/hydromeme/NetworkFile$PipeLine" "com/example/hydromeme/hydromeme/NetworkFile$PipeLine" "line" "I").before a0 Z = true := hw _ (List.mem_of_getElem? (i := 15) rfl)
theorem ow16 {Z : State} {a0 : Array Value} (hw : ∀ d ∈ tables_1, d.before a0 Z = true) : (Jvm.Cond.fieldLink "com/example/hydromeme/hydromeme/NetworkFile$PipeLine" (13 : Nat) "com/example/hydromeme/hydromeme/NetworkFile$PipeLine" "diameterStart" "I").before a0 Z = true := hw _ (List.mem_of_getElem? (i := 16) rfl)
theorem ow17 {Z : State} {a0 : Array Value} (hw : ∀ d ∈ tables_1, d.before a0 Z = true) : (Jvm.Cond.laysFinal "com/example/hydromeme/hydromeme/NetworkFile$PipeLine" "com/example/hydromeme/hydromeme/NetworkFile$PipeLine" "diameterStart" "I").before a0 Z = true := hw _ (List.mem_of_getElem? (i := 17) rfl)
theorem ow18 {Z : State} {a0 : Array Value} (hw : ∀ d ∈ tables_1, d.before a0 Z = true) : (Jvm.Cond.fieldLink "com/example/hydromeme/hydromeme/NetworkFile$PipeLine" (16 : Nat) "com/example/hydromeme/hydromeme/NetworkFile$PipeLine" "diameterEnd" "I").before a0 Z = true := hw _ (List.mem_of_getElem? (i := 18) rfl)
theorem ow19 {Z : State} {a0 : Array Value} (hw : ∀ d ∈ tables_1, d.before a0 Z = true) : (Jvm.Cond.laysFinal "com/example/hydromeme/hydromeme/NetworkFile$PipeLine" "com/example/hydromeme/hydromeme/NetworkFile$PipeLine" "diameterEnd" "I").before a0 Z = true := hw _ (List.mem_of_getElem? (i := 19) rfl)
theorem ow20 {Z : State} {a0 : Array Value} (hw : ∀ d ∈ tables_1, d.before a0 Z = true) : (Jvm.Cond.fieldLink "com/example/hydromeme/hydromeme/NetworkFile$PipeLine" (19 : Nat) "com/example/hydromeme/hydromeme/NetworkFile$PipeLine" "statusStart" "I").before a0 Z = true := hw _ (List.mem_of_getElem? (i := 20) rfl)
theorem ow21 {Z : State} {a0 : Array Value} (hw : ∀ d ∈ tables_1, d.before a0 Z = true) : (Jvm.Cond.laysFinal "com/example/hydromeme/hydromeme/NetworkFile$PipeLine" "com/example/hydromeme/hydromeme/NetworkFile$PipeLine" "statusStart" "I").before a0 Z = true := hw _ (List.mem_of_getElem? (i := 21) rfl)
theorem ow22 {Z : State} {a0 : Array Value} (hw : ∀ d ∈ tables_1, d.before a0 Z = true) : (Jvm.Cond.fieldLink "com/example/hydromeme/hydromeme/NetworkFile$PipeLine" (22 : Nat) "com/example/hydromeme/hydromeme/NetworkFile$PipeLine" "statusEnd" "I").before a0 Z = true := hw _ (List.mem_of_getElem? (i := 22) rfl)
theorem ow23 {Z : State} {a0 : Array Value} (hw : ∀ d ∈ tables_1, d.before a0 Z = true) : (Jvm.Cond.laysFinal "com/example/hydromeme/hydromeme/NetworkFile$PipeLine" "com/example/hydromeme/hydromeme/NetworkFile$PipeLine" "statusEnd" "I").before a0 Z = true := hw _ (List.mem_of_getElem? (i := 23) rfl)
theorem ow24 {Z : State} {a0 : Array Value} (hw : ∀ d ∈ tables_1, d.before a0 Z = true) : (Jvm.Cond.methodLink "com/example/hydromeme/hydromeme/PipeLineHasStatusPinLaw" (12 : Nat) ({ cls := "com/example/hydromeme/hydromeme/NetworkFile$PipeLine", name := "hasStatus", desc := "()Z" } : Jvm.MethodName)).before a0 Z = true := hw _ (List.mem_of_getElem? (i := 24) rfl)
theorem ow25 {Z : State} {a0 : Array Value} (hw : ∀ d ∈ tables_1, d.before a0 Z = true) : (Jvm.Cond.declares ({ cls := "com/example/hydromeme/hydromeme/NetworkFile$PipeLine", name := "hasStatus", desc := "()Z" } : Jvm.MethodName)).before a0 Z = true := hw _ (List.mem_of_getElem? (i := 25) rfl)
theorem ow26 {Z : State} {a0 : Array Value} (hw : ∀ d ∈ tables_1, d.before a0 Z = true) : (Jvm.Cond.instanceMethod ({ cls := "com/example/hydromeme/hydromeme/NetworkFile$PipeLine", name := "hasStatus", desc := "()Z" } : Jvm.MethodName)).before a0 Z = true := hw _ (List.mem_of_getElem? (i := 26) rfl)
theorem ow27 {Z : State} {a0 : Array Value} (hw : ∀ d ∈ tables_1, d.before a0 Z = true) : (Jvm.Cond.selects "com/example/hydromeme/hydromeme/NetworkFile$PipeLine" ({ cls := "com/example/hydromeme/hydromeme/NetworkFile$PipeLine", name := "hasStatus", desc := "()Z" } : Jvm.MethodName) ({ cls := "com/example/hydromeme/hydromeme/NetworkFile$PipeLine", name := "hasStatus", desc := "()Z" } : Jvm.MethodName)).before a0 Z = true := hw _ (List.mem_of_getElem? (i := 27) rfl)
theorem ow28 {Z : State} {a0 : Array Value} (hw : ∀ d ∈ tables_1, d.before a0 Z = true) : (Jvm.Cond.code ({ cls := "com/example/hydromeme/hydromeme/NetworkFile$PipeLine", name := "hasStatus", desc := "()Z" } : Jvm.MethodName) prog_38_method_2_code (1 : Nat) (Option.some Jvm.ClassFile.FieldType.boolean)).before a0 Z = true := hw _ (List.mem_of_getElem? (i := 28) rfl)
def own_hs (a b : Int32) : Int32 := if a < b then 1 else 0
theorem own_lt64 (a b : Int32) : 0 < b.toInt64 - a.toInt64 ↔ a < b := by
  rw [Int64.lt_iff_toInt_lt, Int32.lt_iff_toInt_lt, XT.sub64 (by have := rng32 a; have := rng32 b; simp only [XT.fits64, Int32.toInt_toInt64]; omega)]
  simp only [Int32.toInt_toInt64, Int64.toInt_zero]; omega
theorem own_eq32 {a b : Int32} (h1 : ¬ a < b) (h2 : ¬ b < a) : a = b := by
  rw [Int32.lt_iff_toInt_lt] at h1 h2; exact Int32.toInt_inj.mp (by omega)
theorem own_asym {a b : Int32} (h1 : a < b) (h2 : b < a) : False := by
  rw [Int32.lt_iff_toInt_lt] at h1 h2; omega

theorem pn0 : plainName "java/lang/Record" = true := by first | (simp [plainName, overriddenIn]; done) | decide +kernel
theorem d_jdk_30_method_1_0 : decode jdk_30_method_1_code 0 = .ok (.aload_n 0, 1) := by decide +kernel
theorem d_jdk_30_method_1_1 : decode jdk_30_method_1_code 1 = .ok (.invokespecial 1, 3) := by decide +kernel
theorem d_jdk_30_method_1_4 : decode jdk_30_method_1_code 4 = .ok (.return_, 1) := by decide +kernel
theorem ef_rm1 (m : MethodId) (x0 : Addr) : entryFrame m #[(.ref x0)] 1 = mkF m 0 #[.val (.ref x0)] [] := by first | (simp [entryFrame, mkF, argsToLocals, Value.category]; done) | rfl
def Q_rm1 (Z : State) (a : Addr) (h0 : Heap) (n0 : Nat) (v : Option Value) (h : Heap) (L : List Loc) : Prop := v = none ∧ Fr n0 L ∧ h = h0
set_option maxRecDepth 65536 in
set_option maxHeartbeats 40000000 in
theorem rm1 (l : Launch) (Z : State) (a0 : Array Value) (hw : ∀ d ∈ tables_1, d.before a0 Z = true) (ws : List Jvm.Cond) (a : Addr) (h0 : Heap) (n0 : Nat) (Z0 : n0 ≤ h0.size)  :
    OCon l Z (⟨"java/lang/Record", "<init>", "()V"⟩ : MethodName) jdk_30_method_1_code 1 none ws ({ frames := 1, cells := 0, slots := 0, locals := 12 } : Room) #[(.ref a)] h0 (Q_rm1 Z a h0 n0) := by
  refine OCon.of pn0 ?_
  intro p e s m below meth c s₁ Φ X0 hx hby hml hown hnm hret hlk hZ e0 hΦ
  have N0 := Fr.nil n0
  refine OGo.st (fun _ k => castTop (ef_rm1 m a) k) ?_
  show OGo p.tables e below Φ (s₁.setTop (mkF m 0 #[.val (.ref a)] []))
  refine OGo.st (fun _ k => XS.aloadN X0.here hx rfl (hb hby d_jdk_30_method_1_0) rfl rfl k) ?_
  show OGo p.tables e below Φ (s₁.setTop (mkF m 1 #[.val (.ref a)] [(.ref a)]))
  obtain ⟨T1, X1, e1, st1⟩ := initO X0 hx hZ hown (ow11 hw) (ow12 hw) (ow13 hw) e0 (g := (mkF m 1 #[.val (.ref a)] [(.ref a)])) rfl (by rw [hml]; rfl) rfl (hb hby d_jdk_30_method_1_1) (by decide) (W := 0) (Nat.le_of_eq rfl) (by decide)
  refine OGo.st st1 ?_
  show OGo p.tables e below Φ (T1.setTop (mkF m 4 #[.val (.ref a)] []))
  refine OGo.fin X1 hlk (v := none) (fun _ => rfl) (by decide) (by decide) (fun fs hr => X1.returnOut hx hret (hb hby d_jdk_30_method_1_4) hr) fun U eU hF => hΦ _ _ _ ?_ hF
  rw [eU, e1]
  show Q_rm1 Z a h0 n0 _ _ _
  exact ⟨rfl, N0, rfl⟩

theorem pn1 : plainName "com/example/hydromeme/hydromeme/NetworkFile$PipeLine" = true := by first | (simp [plainName, overriddenIn]; done) | decide +kernel
theorem d_prog_38_method_1_0 : decode prog_38_method_1_code 0 = .ok (.aload_n 0, 1) := by decide +kernel
theorem d_prog_38_method_1_1 : decode prog_38_method_1_code 1 = .ok (.invokespecial 1, 3) := by decide +kernel
theorem pd0 : parseMethodDescriptor "()V" = some ⟨[], none⟩ := by decide +kernel
theorem d_prog_38_method_1_4 : decode prog_38_method_1_code 4 = .ok (.aload_n 0, 1) := by decide +kernel
theorem d_prog_38_method_1_5 : decode prog_38_method_1_code 5 = .ok (.iload_n 1, 1) := by decide +kernel
theorem d_prog_38_method_1_6 : decode prog_38_method_1_code 6 = .ok (.putfield 7, 3) := by decide +kernel
theorem d_prog_38_method_1_9 : decode prog_38_method_1_code 9 = .ok (.aload_n 0, 1) := by decide +kernel
theorem d_prog_38_method_1_10 : decode prog_38_method_1_code 10 = .ok (.iload_n 2, 1) := by decide +kernel
theorem d_prog_38_method_1_11 : decode prog_38_method_1_code 11 = .ok (.putfield 13, 3) := by decide +kernel
theorem d_prog_38_method_1_14 : decode prog_38_method_1_code 14 = .ok (.aload_n 0, 1) := by decide +kernel
theorem d_prog_38_method_1_15 : decode prog_38_method_1_code 15 = .ok (.iload_n 3, 1) := by decide +kernel
theorem d_prog_38_method_1_16 : decode prog_38_method_1_code 16 = .ok (.putfield 16, 3) := by decide +kernel
theorem d_prog_38_method_1_19 : decode prog_38_method_1_code 19 = .ok (.aload_n 0, 1) := by decide +kernel
theorem d_prog_38_method_1_20 : decode prog_38_method_1_code 20 = .ok (.iload 4, 2) := by decide +kernel
theorem d_prog_38_method_1_22 : decode prog_38_method_1_code 22 = .ok (.putfield 19, 3) := by decide +kernel
theorem d_prog_38_method_1_25 : decode prog_38_method_1_code 25 = .ok (.aload_n 0, 1) := by decide +kernel
theorem d_prog_38_method_1_26 : decode prog_38_method_1_code 26 = .ok (.iload 5, 2) := by decide +kernel
theorem d_prog_38_method_1_28 : decode prog_38_method_1_code 28 = .ok (.putfield 22, 3) := by decide +kernel
theorem d_prog_38_method_1_31 : decode prog_38_method_1_code 31 = .ok (.return_, 1) := by decide +kernel
theorem ef_rm2 (m : MethodId) (x0 : Addr) (x1 : Int32) (x2 : Int32) (x3 : Int32) (x4 : Int32) (x5 : Int32) : entryFrame m #[(.ref x0), (.int x1), (.int x2), (.int x3), (.int x4), (.int x5)] 6 = mkF m 0 #[.val (.ref x0), .val (.int x1), .val (.int x2), .val (.int x3), .val (.int x4), .val (.int x5)] [] := by first | (simp [entryFrame, mkF, argsToLocals, Value.category]; done) | rfl
def Q_rm2 (Z : State) (a : Addr) (x1 : Int32) (x2 : Int32) (x3 : Int32) (x4 : Int32) (x5 : Int32) (u0 : Value) (u1 : Value) (u2 : Value) (u3 : Value) (u4 : Value) (h0 : Heap) (n0 : Nat) (v : Option Value) (h : Heap) (L : List Loc) : Prop := v = none ∧ Fr n0 L ∧ Keep h0 h [a] ∧ Exa Z h a "com/example/hydromeme/hydromeme/NetworkFile$PipeLine" ∧ Fld Z h a "com/example/hydromeme/hydromeme/NetworkFile$PipeLine" "line" "I" (.int x1) ∧ Fld Z h a "com/example/hydromeme/hydromeme/NetworkFile$PipeLine" "diameterStart" "I" (.int x2) ∧ Fld Z h a "com/example/hydromeme/hydromeme/NetworkFile$PipeLine" "diameterEnd" "I" (.int x3) ∧ Fld Z h a "com/example/hydromeme/hydromeme/NetworkFile$PipeLine" "statusStart" "I" (.int x4) ∧ Fld Z h a "com/example/hydromeme/hydromeme/NetworkFile$PipeLine" "statusEnd" "I" (.int x5)
set_option maxRecDepth 65536 in
set_option maxHeartbeats 40000000 in
theorem rm2 (l : Launch) (Z : State) (a0 : Array Value) (hw : ∀ d ∈ tables_1, d.before a0 Z = true) (ws : List Jvm.Cond) (a : Addr) (x1 : Int32) (x2 : Int32) (x3 : Int32) (x4 : Int32) (x5 : Int32) (u0 : Value) (u1 : Value) (u2 : Value) (u3 : Value) (u4 : Value) (h0 : Heap) (n0 : Nat) (Z0 : n0 ≤ h0.size) (E_a : Exa Z h0 a "com/example/hydromeme/hydromeme/NetworkFile$PipeLine") (g_a : n0 ≤ a) (F_0 : Fld Z h0 a "com/example/hydromeme/hydromeme/NetworkFile$PipeLine" "line" "I" u0) (F_1 : Fld Z h0 a "com/example/hydromeme/hydromeme/NetworkFile$PipeLine" "diameterStart" "I" u1) (F_2 : Fld Z h0 a "com/example/hydromeme/hydromeme/NetworkFile$PipeLine" "diameterEnd" "I" u2) (F_3 : Fld Z h0 a "com/example/hydromeme/hydromeme/NetworkFile$PipeLine" "statusStart" "I" u3) (F_4 : Fld Z h0 a "com/example/hydromeme/hydromeme/NetworkFile$PipeLine" "statusEnd" "I" u4) :
    OCon l Z (⟨"com/example/hydromeme/hydromeme/NetworkFile$PipeLine", "<init>", "(IIIII)V"⟩ : MethodName) prog_38_method_1_code 6 none ws ({ frames := 2, cells := 0, slots := 0, locals := 24 } : Room) #[(.ref a), (.int x1), (.int x2), (.int x3), (.int x4), (.int x5)] h0 (Q_rm2 Z a x1 x2 x3 x4 x5 u0 u1 u2 u3 u4 h0 n0) := by
  refine OCon.of pn1 ?_
  intro p e s m below meth c s₁ Φ X0 hx hby hml hown hnm hret hlk hZ e0 hΦ
  have N0 := Fr.nil n0
  refine OGo.st (fun _ k => castTop (ef_rm2 m a x1 x2 x3 x4 x5) k) ?_
  have K0 := Keep.refl h0 [a]
  show OGo p.tables e below Φ (s₁.setTop (mkF m 0 #[.val (.ref a), .val (.int x1), .val (.int x2), .val (.int x3), .val (.int x4), .val (.int x5)] []))
  refine OGo.st (fun _ k => XS.aloadN X0.here hx rfl (hb hby d_prog_38_method_1_0) rfl rfl k) ?_
  show OGo p.tables e below Φ (s₁.setTop (mkF m 1 #[.val (.ref a), .val (.int x1), .val (.int x2), .val (.int x3), .val (.int x4), .val (.int x5)] [(.ref a)]))
  obtain ⟨_, T1, L1, X1, hQ1, st1⟩ := own_callSp X0 hx hZ rfl hown (ow6 hw) (ow7 hw) (ow9 hw) (ow10 hw) (by decide) (rm1 l Z a0 hw [] a h0 n0 Z0 ) e0 (W := 0) (by decide) (by decide) (by decide) (by decide) (pc := 1) (ls := #[.val (.ref a), .val (.int x1), .val (.int x2), .val (.int x3), .val (.int x4), .val (.int x5)]) (stk := [(.ref a)]) (by rw [hml]; rfl) (a := a) (argsL := []) (rest := []) (lenOf pd0 rfl) rfl rfl (Nat.le_of_eq rfl) (hb hby d_prog_38_method_1_1)
  obtain ⟨rfl, Nq1, e1⟩ := hQ1
  have N1 := Fr.app N0 Nq1
  refine OGo.st st1 ?_
  show OGo p.tables e below Φ (T1.setTop (mkF m 4 #[.val (.ref a), .val (.int x1), .val (.int x2), .val (.int x3), .val (.int x4), .val (.int x5)] []))
  refine OGo.st (fun _ k => XS.aloadN X1.here hx rfl (hb hby d_prog_38_method_1_4) rfl rfl k) ?_
  show OGo p.tables e below Φ (T1.setTop (mkF m 5 #[.val (.ref a), .val (.int x1), .val (.int x2), .val (.int x3), .val (.int x4), .val (.int x5)] [(.ref a)]))
  refine OGo.st (fun _ k => XS.iloadN X1.here hx rfl (hb hby d_prog_38_method_1_5) rfl k) ?_
  show OGo p.tables e below Φ (T1.setTop (mkF m 6 #[.val (.ref a), .val (.int x1), .val (.int x2), .val (.int x3), .val (.int x4), .val (.int x5)] [(.int x1), (.ref a)]))
  obtain ⟨T2, h2, X2, e2, W2, st2⟩ := putF X1 hx hZ hown (host := "") (Or.inl (ow14 hw)) Via.refl e1 F_0 E_a (Or.inr ⟨(ow15 hw), rfl, hnm⟩) (ow1 hw) (ty := .int) (by decide) rfl rfl (g := (mkF m 6 #[.val (.ref a), .val (.int x1), .val (.int x2), .val (.int x3), .val (.int x4), .val (.int x5)] [(.int x1), (.ref a)])) rfl rfl (hb hby d_prog_38_method_1_6)
  have F3 := E_a.wr W2
  have F4 := F_0.same W2
  have F5 := F_1.other W2 (Or.inr (slot_ne (Or.inr (ow17 hw)) (Or.inr (ow15 hw)) (by decide) (t := .int) (t' := .int) (by decide) (by decide)))
  have F6 := F_2.other W2 (Or.inr (slot_ne (Or.inr (ow19 hw)) (Or.inr (ow15 hw)) (by decide) (t := .int) (t' := .int) (by decide) (by decide)))
  have F7 := F_3.other W2 (Or.inr (slot_ne (Or.inr (ow21 hw)) (Or.inr (ow15 hw)) (by decide) (t := .int) (t' := .int) (by decide) (by decide)))
  have F8 := F_4.other W2 (Or.inr (slot_ne (Or.inr (ow23 hw)) (Or.inr (ow15 hw)) (by decide) (t := .int) (t' := .int) (by decide) (by decide)))
  have K2 := K0.wr W2 (Or.inl (List.mem_of_getElem? (i := 0) rfl))
  have N2 := Fr.snoc X2 N1 g_a
  have Zs2 : n0 ≤ h2.size := by rw [W2.size]; exact Z0
  refine OGo.st st2 ?_
  show OGo p.tables e below Φ (T2.setTop (mkF m 9 #[.val (.ref a), .val (.int x1), .val (.int x2), .val (.int x3), .val (.int x4), .val (.int x5)] []))
  refine OGo.st (fun _ k => XS.aloadN X2.here hx rfl (hb hby d_prog_38_method_1_9) rfl rfl k) ?_
  show OGo p.tables e below Φ (T2.setTop (mkF m 10 #[.val (.ref a), .val (.int x1), .val (.int x2), .val (.int x3), .val (.int x4), .val (.int x5)] [(.ref a)]))
  refine OGo.st (fun _ k => XS.iloadN X2.here hx rfl (hb hby d_prog_38_method_1_10) rfl k) ?_
  show OGo p.tables e below Φ (T2.setTop (mkF m 11 #[.val (.ref a), .val (.int x1), .val (.int x2), .val (.int x3), .val (.int x4), .val (.int x5)] [(.int x2), (.ref a)]))
  obtain ⟨T9, h9, X9, e9, W9, st9⟩ := putF X2 hx hZ hown (host := "") (Or.inl (ow16 hw)) Via.refl e2 F5 F3 (Or.inr ⟨(ow17 hw), rfl, hnm⟩) (ow1 hw) (ty := .int) (by decide) rfl rfl (g := (mkF m 11 #[.val (.ref a), .val (.int x1), .val (.int x2), .val (.int x3), .val (.int x4), .val (.int x5)] [(.int x2), (.ref a)])) rfl rfl (hb hby d_prog_38_method_1_11)
  have F10 := F3.wr W9
  have F11 := F4.other W9 (Or.inr (slot_ne (Or.inr (ow15 hw)) (Or.inr (ow17 hw)) (by decide) (t := .int) (t' := .int) (by decide) (by decide)))
  have F12 := F5.same W9
  have F13 := F6.other W9 (Or.inr (slot_ne (Or.inr (ow19 hw)) (Or.inr (ow17 hw)) (by decide) (t := .int) (t' := .int) (by decide) (by decide)))
  have F14 := F7.other W9 (Or.inr (slot_ne (Or.inr (ow21 hw)) (Or.inr (ow17 hw)) (by decide) (t := .int) (t' := .int) (by decide) (by decide)))
  have F15 := F8.other W9 (Or.inr (slot_ne (Or.inr (ow23 hw)) (Or.inr (ow17 hw)) (by decide) (t := .int) (t' := .int) (by decide) (by decide)))
  have K9 := K2.wr W9 (Or.inl (List.mem_of_getElem? (i := 0) rfl))
  have N9 := Fr.snoc X9 N2 g_a
  have Zs9 : n0 ≤ h9.size := by rw [W9.size]; exact Zs2
  refine OGo.st st9 ?_
  show OGo p.tables e below Φ (T9.setTop (mkF m 14 #[.val (.ref a), .val (.int x1), .val (.int x2), .val (.int x3), .val (.int x4), .val (.int x5)] []))
  refine OGo.st (fun _ k => XS.aloadN X9.here hx rfl (hb hby d_prog_38_method_1_14) rfl rfl k) ?_
  show OGo p.tables e below Φ (T9.setTop (mkF m 15 #[.val (.ref a), .val (.int x1), .val (.int x2), .val (.int x3), .val (.int x4), .val (.int x5)] [(.ref a)]))
  refine OGo.st (fun _ k => XS.iloadN X9.here hx rfl (hb hby d_prog_38_method_1_15) rfl k) ?_
  show OGo p.tables e below Φ (T9.setTop (mkF m 16 #[.val (.ref a), .val (.int x1), .val (.int x2), .val (.int x3), .val (.int x4), .val (.int x5)] [(.int x3), (.ref a)]))
  obtain ⟨T16, h16, X16, e16, W16, st16⟩ := putF X9 hx hZ hown (host := "") (Or.inl (ow18 hw)) Via.refl e9 F13 F10 (Or.inr ⟨(ow19 hw), rfl, hnm⟩) (ow1 hw) (ty := .int) (by decide) rfl rfl (g := (mkF m 16 #[.val (.ref a), .val (.int x1), .val (.int x2), .val (.int x3), .val (.int x4), .val (.int x5)] [(.int x3), (.ref a)])) rfl rfl (hb hby d_prog_38_method_1_16)
  have F17 := F10.wr W16
  have F18 := F11.other W16 (Or.inr (slot_ne (Or.inr (ow15 hw)) (Or.inr (ow19 hw)) (by decide) (t := .int) (t' := .int) (by decide) (by decide)))
  have F19 := F12.other W16 (Or.inr (slot_ne (Or.inr (ow17 hw)) (Or.inr (ow19 hw)) (by decide) (t := .int) (t' := .int) (by decide) (by decide)))
  have F20 := F13.same W16
  have F21 := F14.other W16 (Or.inr (slot_ne (Or.inr (ow21 hw)) (Or.inr (ow19 hw)) (by decide) (t := .int) (t' := .int) (by decide) (by decide)))
  have F22 := F15.other W16 (Or.inr (slot_ne (Or.inr (ow23 hw)) (Or.inr (ow19 hw)) (by decide) (t := .int) (t' := .int) (by decide) (by decide)))
  have K16 := K9.wr W16 (Or.inl (List.mem_of_getElem? (i := 0) rfl))
  have N16 := Fr.snoc X16 N9 g_a
  have Zs16 : n0 ≤ h16.size := by rw [W16.size]; exact Zs9
  refine OGo.st st16 ?_
  show OGo p.tables e below Φ (T16.setTop (mkF m 19 #[.val (.ref a), .val (.int x1), .val (.int x2), .val (.int x3), .val (.int x4), .val (.int x5)] []))
  refine OGo.st (fun _ k => XS.aloadN X16.here hx rfl (hb hby d_prog_38_method_1_19) rfl rfl k) ?_
  show OGo p.tables e below Φ (T16.setTop (mkF m 20 #[.val (.ref a), .val (.int x1), .val (.int x2), .val (.int x3), .val (.int x4), .val (.int x5)] [(.ref a)]))
  refine OGo.st (fun _ k => XS.iload X16.here hx rfl (hb hby d_prog_38_method_1_20) rfl k) ?_
  show OGo p.tables e below Φ (T16.setTop (mkF m 22 #[.val (.ref a), .val (.int x1), .val (.int x2), .val (.int x3), .val (.int x4), .val (.int x5)] [(.int x4), (.ref a)]))
  obtain ⟨T23, h23, X23, e23, W23, st23⟩ := putF X16 hx hZ hown (host := "") (Or.inl (ow20 hw)) Via.refl e16 F21 F17 (Or.inr ⟨(ow21 hw), rfl, hnm⟩) (ow1 hw) (ty := .int) (by decide) rfl rfl (g := (mkF m 22 #[.val (.ref a), .val (.int x1), .val (.int x2), .val (.int x3), .val (.int x4), .val (.int x5)] [(.int x4), (.ref a)])) rfl rfl (hb hby d_prog_38_method_1_22)
  have F24 := F17.wr W23
  have F25 := F18.other W23 (Or.inr (slot_ne (Or.inr (ow15 hw)) (Or.inr (ow21 hw)) (by decide) (t := .int) (t' := .int) (by decide) (by decide)))
  have F26 := F19.other W23 (Or.inr (slot_ne (Or.inr (ow17 hw)) (Or.inr (ow21 hw)) (by decide) (t := .int) (t' := .int) (by decide) (by decide)))
  have F27 := F20.other W23 (Or.inr (slot_ne (Or.inr (ow19 hw)) (Or.inr (ow21 hw)) (by decide) (t := .int) (t' := .int) (by decide) (by decide)))
  have F28 := F21.same W23
  have F29 := F22.other W23 (Or.inr (slot_ne (Or.inr (ow23 hw)) (Or.inr (ow21 hw)) (by decide) (t := .int) (t' := .int) (by decide) (by decide)))
  have K23 := K16.wr W23 (Or.inl (List.mem_of_getElem? (i := 0) rfl))
  have N23 := Fr.snoc X23 N16 g_a
  have Zs23 : n0 ≤ h23.size := by rw [W23.size]; exact Zs16
  refine OGo.st st23 ?_
  show OGo p.tables e below Φ (T23.setTop (mkF m 25 #[.val (.ref a), .val (.int x1), .val (.int x2), .val (.int x3), .val (.int x4), .val (.int x5)] []))
  refine OGo.st (fun _ k => XS.aloadN X23.here hx rfl (hb hby d_prog_38_method_1_25) rfl rfl k) ?_
  show OGo p.tables e below Φ (T23.setTop (mkF m 26 #[.val (.ref a), .val (.int x1), .val (.int x2), .val (.int x3), .val (.int x4), .val (.int x5)] [(.ref a)]))
  refine OGo.st (fun _ k => XS.iload X23.here hx rfl (hb hby d_prog_38_method_1_26) rfl k) ?_
  show OGo p.tables e below Φ (T23.setTop (mkF m 28 #[.val (.ref a), .val (.int x1), .val (.int x2), .val (.int x3), .val (.int x4), .val (.int x5)] [(.int x5), (.ref a)]))
  obtain ⟨T30, h30, X30, e30, W30, st30⟩ := putF X23 hx hZ hown (host := "") (Or.inl (ow22 hw)) Via.refl e23 F29 F24 (Or.inr ⟨(ow23 hw), rfl, hnm⟩) (ow1 hw) (ty := .int) (by decide) rfl rfl (g := (mkF m 28 #[.val (.ref a), .val (.int x1), .val (.int x2), .val (.int x3), .val (.int x4), .val (.int x5)] [(.int x5), (.ref a)])) rfl rfl (hb hby d_prog_38_method_1_28)
  have F31 := F24.wr W30
  have F32 := F25.other W30 (Or.inr (slot_ne (Or.inr (ow15 hw)) (Or.inr (ow23 hw)) (by decide) (t := .int) (t' := .int) (by decide) (by decide)))
  have F33 := F26.other W30 (Or.inr (slot_ne (Or.inr (ow17 hw)) (Or.inr (ow23 hw)) (by decide) (t := .int) (t' := .int) (by decide) (by decide)))
  have F34 := F27.other W30 (Or.inr (slot_ne (Or.inr (ow19 hw)) (Or.inr (ow23 hw)) (by decide) (t := .int) (t' := .int) (by decide) (by decide)))
  have F35 := F28.other W30 (Or.inr (slot_ne (Or.inr (ow21 hw)) (Or.inr (ow23 hw)) (by decide) (t := .int) (t' := .int) (by decide) (by decide)))
  have F36 := F29.same W30
  have K30 := K23.wr W30 (Or.inl (List.mem_of_getElem? (i := 0) rfl))
  have N30 := Fr.snoc X30 N23 g_a
  have Zs30 : n0 ≤ h30.size := by rw [W30.size]; exact Zs23
  refine OGo.st st30 ?_
  show OGo p.tables e below Φ (T30.setTop (mkF m 31 #[.val (.ref a), .val (.int x1), .val (.int x2), .val (.int x3), .val (.int x4), .val (.int x5)] []))
  refine OGo.fin X30 hlk (v := none) (fun _ => rfl) (by decide) (by decide) (fun fs hr => X30.returnOut hx hret (hb hby d_prog_38_method_1_31) hr) fun U eU hF => hΦ _ _ _ ?_ hF
  rw [eU, e30]
  show Q_rm2 Z a x1 x2 x3 x4 x5 u0 u1 u2 u3 u4 h0 n0 _ _ _
  exact ⟨rfl, N30, K30, F31, F32, F33, F34, F35, F36⟩

theorem d_prog_38_method_2_0 : decode prog_38_method_2_code 0 = .ok (.aload_n 0, 1) := by decide +kernel
theorem d_prog_38_method_2_1 : decode prog_38_method_2_code 1 = .ok (.getfield 19, 3) := by decide +kernel
theorem d_prog_38_method_2_4 : decode prog_38_method_2_code 4 = .ok (.aload_n 0, 1) := by decide +kernel
theorem d_prog_38_method_2_5 : decode prog_38_method_2_code 5 = .ok (.getfield 22, 3) := by decide +kernel
theorem d_prog_38_method_2_8 : decode prog_38_method_2_code 8 = .ok (.if_icmp .ge 7, 3) := by decide +kernel
theorem d_prog_38_method_2_11 : decode prog_38_method_2_code 11 = .ok (.iconst 1, 1) := by decide +kernel
theorem d_prog_38_method_2_12 : decode prog_38_method_2_code 12 = .ok (.goto 4, 3) := by decide +kernel
theorem d_prog_38_method_2_16 : decode prog_38_method_2_code 16 = .ok (.ireturn, 1) := by decide +kernel
theorem d_prog_38_method_2_15 : decode prog_38_method_2_code 15 = .ok (.iconst 0, 1) := by decide +kernel
theorem ef_rm3 (m : MethodId) (x0 : Addr) : entryFrame m #[(.ref x0)] 1 = mkF m 0 #[.val (.ref x0)] [] := by first | (simp [entryFrame, mkF, argsToLocals, Value.category]; done) | rfl
def Q_rm3 (Z : State) (a : Addr) (x : Int32) (y : Int32) (h0 : Heap) (n0 : Nat) (v : Option Value) (h : Heap) (L : List Loc) : Prop := v = some (.int (own_hs x y)) ∧ Fr n0 L ∧ h = h0
set_option maxRecDepth 65536 in
set_option maxHeartbeats 40000000 in
theorem rm3 (l : Launch) (Z : State) (a0 : Array Value) (hw : ∀ d ∈ tables_1, d.before a0 Z = true) (ws : List Jvm.Cond) (a : Addr) (x : Int32) (y : Int32) (h0 : Heap) (n0 : Nat) (Z0 : n0 ≤ h0.size) (F_s : Fld Z h0 a "com/example/hydromeme/hydromeme/NetworkFile$PipeLine" "statusStart" "I" (.int x)) (F_e : Fld Z h0 a "com/example/hydromeme/hydromeme/NetworkFile$PipeLine" "statusEnd" "I" (.int y)) :
    OCon l Z (⟨"com/example/hydromeme/hydromeme/NetworkFile$PipeLine", "hasStatus", "()Z"⟩ : MethodName) prog_38_method_2_code 1 (some .boolean) ws ({ frames := 0, cells := 0, slots := 0, locals := 0 } : Room) #[(.ref a)] h0 (Q_rm3 Z a x y h0 n0) := by
  refine OCon.of pn1 ?_
  intro p e s m below meth c s₁ Φ X0 hx hby hml hown hnm hret hlk hZ e0 hΦ
  have N0 := Fr.nil n0
  refine OGo.st (fun _ k => castTop (ef_rm3 m a) k) ?_
  show OGo p.tables e below Φ (s₁.setTop (mkF m 0 #[.val (.ref a)] []))
  refine OGo.st (fun _ k => XS.aloadN X0.here hx rfl (hb hby d_prog_38_method_2_0) rfl rfl k) ?_
  show OGo p.tables e below Φ (s₁.setTop (mkF m 1 #[.val (.ref a)] [(.ref a)]))
  obtain ⟨T1, X1, e1, st1⟩ := getF X0 hx hZ hown (host := "") (Or.inl (ow20 hw)) Via.refl e0 F_s (g := (mkF m 1 #[.val (.ref a)] [(.ref a)])) rfl rfl (hb hby d_prog_38_method_2_1)
  refine OGo.st st1 ?_
  show OGo p.tables e below Φ (T1.setTop (mkF m 4 #[.val (.ref a)] [(.int x)]))
  refine OGo.st (fun _ k => XS.aloadN X1.here hx rfl (hb hby d_prog_38_method_2_4) rfl rfl k) ?_
  show OGo p.tables e below Φ (T1.setTop (mkF m 5 #[.val (.ref a)] [(.ref a), (.int x)]))
  obtain ⟨T2, X2, e2, st2⟩ := getF X1 hx hZ hown (host := "") (Or.inl (ow22 hw)) Via.refl e1 F_e (g := (mkF m 5 #[.val (.ref a)] [(.ref a), (.int x)])) rfl rfl (hb hby d_prog_38_method_2_5)
  refine OGo.st st2 ?_
  show OGo p.tables e below Φ (T2.setTop (mkF m 8 #[.val (.ref a)] [(.int y), (.int x)]))
  by_cases hc3 : x < y
  · refine OGo.st (fun _ k => XS.icmpNo X2.here hx rfl (hb hby d_prog_38_method_2_8) rfl (XT.ii_ge_f hc3) k) ?_
    show OGo p.tables e below Φ (T2.setTop (mkF m 11 #[.val (.ref a)] []))
    refine OGo.st (fun _ k => XS.iconst X2.here hx rfl (hb hby d_prog_38_method_2_11) k) ?_
    show OGo p.tables e below Φ (T2.setTop (mkF m 12 #[.val (.ref a)] [(.int (1 : Int32))]))
    refine OGo.st (fun _ k => XS.goto X2.here hx rfl (pc0 := 12) (pc' := 16) rfl (hb hby d_prog_38_method_2_12) (by decide) (by decide) k) ?_
    show OGo p.tables e below Φ (T2.setTop (mkF m 16 #[.val (.ref a)] [(.int (1 : Int32))]))
    refine OGo.fin X2 hlk (v := (some (.int (1 : Int32)))) (fun h => by rw [hret] at h; cases h) (by decide) (by decide) (fun fs hr => X2.ireturnOut hx hret rfl (by simp) (hb hby d_prog_38_method_2_16) hr) fun U eU hF => hΦ _ _ _ ?_ hF
    rw [eU, e2]
    show Q_rm3 Z a x y h0 n0 _ _ _
    exact ⟨by simp [own_hs, hc3], N0, rfl⟩
  · refine OGo.st (fun _ k => XS.icmpYes X2.here hx rfl (pc0 := 8) (pc' := 15) rfl (hb hby d_prog_38_method_2_8) rfl (XT.ii_ge_t hc3) (by decide) (by decide) k) ?_
    show OGo p.tables e below Φ (T2.setTop (mkF m 15 #[.val (.ref a)] []))
    refine OGo.st (fun _ k => XS.iconst X2.here hx rfl (hb hby d_prog_38_method_2_15) k) ?_
    show OGo p.tables e below Φ (T2.setTop (mkF m 16 #[.val (.ref a)] [(.int (0 : Int32))]))
    refine OGo.fin X2 hlk (v := (some (.int (0 : Int32)))) (fun h => by rw [hret] at h; cases h) (by decide) (by decide) (fun fs hr => X2.ireturnOut hx hret rfl (by simp) (hb hby d_prog_38_method_2_16) hr) fun U eU hF => hΦ _ _ _ ?_ hF
    rw [eU, e2]
    show Q_rm3 Z a x y h0 n0 _ _ _
    exact ⟨by simp [own_hs, hc3], N0, rfl⟩

theorem pn2 : plainName "com/example/hydromeme/hydromeme/PipeLineHasStatusPinLaw" = true := by first | (simp [plainName, overriddenIn]; done) | decide +kernel
theorem pd1 : parseMethodDescriptor "(IIIII)V" = some ⟨[.int, .int, .int, .int, .int], none⟩ := by decide +kernel
theorem pd2 : parseMethodDescriptor "()Z" = some ⟨[], some .boolean⟩ := by decide +kernel
theorem ef_rm0 (m : MethodId) (x0 : Int32) (x1 : Int32) (x2 : Int32) (x3 : Int32) (x4 : Int32) : entryFrame m #[(.int x0), (.int x1), (.int x2), (.int x3), (.int x4)] maxLocals = mkF m 0 #[.val (.int x0), .val (.int x1), .val (.int x2), .val (.int x3), .val (.int x4), .unset, .unset, .unset, .unset, .unset, .unset, .unset] [] := by first | (simp [entryFrame, mkF, argsToLocals, Value.category, maxLocals]; done) | rfl
def Q_rm0 (Z : State) (ln : Int32) (ds : Int32) (de : Int32) (ss : Int32) (se : Int32) (h0 : Heap) (n0 : Nat) (v : Option Value) (h : Heap) (L : List Loc) : Prop := v = some (.int (1 : Int32)) ∧ Fr n0 L
set_option maxRecDepth 65536 in
set_option maxHeartbeats 40000000 in
theorem rm0 (l : Launch) (Z : State) (a0 : Array Value) (hw : ∀ d ∈ tables_1, d.before a0 Z = true) (ws : List Jvm.Cond) (ln : Int32) (ds : Int32) (de : Int32) (ss : Int32) (se : Int32) (h0 : Heap) (n0 : Nat) (Z0 : n0 ≤ h0.size)  :
    OCon l Z x code maxLocals ret ws room_1 #[(.int ln), (.int ds), (.int de), (.int ss), (.int se)] h0 (Q_rm0 Z ln ds de ss se h0 n0) := by
  refine OCon.of pn2 ?_
  intro p e s m below meth c s₁ Φ X0 hx hby hml hown hnm hret hlk hZ e0 hΦ
  have N0 := Fr.nil n0
  refine OGo.st (fun _ k => castTop (ef_rm0 m ln ds de ss se) k) ?_
  show OGo p.tables e below Φ (s₁.setTop (mkF m 0 #[.val (.int ln), .val (.int ds), .val (.int de), .val (.int ss), .val (.int se), .unset, .unset, .unset, .unset, .unset, .unset, .unset] []))
  obtain ⟨T1, h1, X1, e1, E1, A1, D1, U1, st1⟩ := newO X0 hx hZ hown (ow0 hw) (ow1 hw) (ow2 hw) e0 (g := (mkF m 0 #[.val (.int ln), .val (.int ds), .val (.int de), .val (.int ss), .val (.int se), .unset, .unset, .unset, .unset, .unset, .unset, .unset] [])) rfl (hb hby at_0) (by decide) (by decide)
  obtain ⟨b1, g1⟩ : ∃ z, z = h0.size := ⟨_, rfl⟩
  rw [← g1] at A1 D1 st1 U1
  have gb1 : n0 ≤ b1 := Nat.le_trans Z0 (Nat.le_of_eq g1.symm)
  have Zs1 : n0 ≤ h1.size := Nat.le_trans Z0 E1.1
  have F1_15 : Fld Z h1 b1 "com/example/hydromeme/hydromeme/NetworkFile$PipeLine" "line" "I" (.int (0 : Int32)) := D1 (Or.inr (ow15 hw)) (ty := .int) (by decide)
  have F1_17 : Fld Z h1 b1 "com/example/hydromeme/hydromeme/NetworkFile$PipeLine" "diameterStart" "I" (.int (0 : Int32)) := D1 (Or.inr (ow17 hw)) (ty := .int) (by decide)
  have F1_19 : Fld Z h1 b1 "com/example/hydromeme/hydromeme/NetworkFile$PipeLine" "diameterEnd" "I" (.int (0 : Int32)) := D1 (Or.inr (ow19 hw)) (ty := .int) (by decide)
  have F1_21 : Fld Z h1 b1 "com/example/hydromeme/hydromeme/NetworkFile$PipeLine" "statusStart" "I" (.int (0 : Int32)) := D1 (Or.inr (ow21 hw)) (ty := .int) (by decide)
  have F1_23 : Fld Z h1 b1 "com/example/hydromeme/hydromeme/NetworkFile$PipeLine" "statusEnd" "I" (.int (0 : Int32)) := D1 (Or.inr (ow23 hw)) (ty := .int) (by decide)
  refine OGo.st (st1) ?_
  show OGo p.tables e below Φ (T1.setTop (mkF m 3 #[.val (.int ln), .val (.int ds), .val (.int de), .val (.int ss), .val (.int se), .unset, .unset, .unset, .unset, .unset, .unset, .unset] [(.ref b1)]))
  refine OGo.st (fun _ k => XS.dup X1.here hx rfl (hb hby at_3) rfl rfl k) ?_
  show OGo p.tables e below Φ (T1.setTop (mkF m 4 #[.val (.int ln), .val (.int ds), .val (.int de), .val (.int ss), .val (.int se), .unset, .unset, .unset, .unset, .unset, .unset, .unset] [(.ref b1), (.ref b1)]))
  refine OGo.st (fun _ k => XS.iloadN X1.here hx rfl (hb hby at_4) rfl k) ?_
  show OGo p.tables e below Φ (T1.setTop (mkF m 5 #[.val (.int ln), .val (.int ds), .val (.int de), .val (.int ss), .val (.int se), .unset, .unset, .unset, .unset, .unset, .unset, .unset] [(.int ln), (.ref b1), (.ref b1)]))
  refine OGo.st (fun _ k => XS.iloadN X1.here hx rfl (hb hby at_5) rfl k) ?_
  show OGo p.tables e below Φ (T1.setTop (mkF m 6 #[.val (.int ln), .val (.int ds), .val (.int de), .val (.int ss), .val (.int se), .unset, .unset, .unset, .unset, .unset, .unset, .unset] [(.int ds), (.int ln), (.ref b1), (.ref b1)]))
  refine OGo.st (fun _ k => XS.iloadN X1.here hx rfl (hb hby at_6) rfl k) ?_
  show OGo p.tables e below Φ (T1.setTop (mkF m 7 #[.val (.int ln), .val (.int ds), .val (.int de), .val (.int ss), .val (.int se), .unset, .unset, .unset, .unset, .unset, .unset, .unset] [(.int de), (.int ds), (.int ln), (.ref b1), (.ref b1)]))
  refine OGo.st (fun _ k => XS.iloadN X1.here hx rfl (hb hby at_7) rfl k) ?_
  show OGo p.tables e below Φ (T1.setTop (mkF m 8 #[.val (.int ln), .val (.int ds), .val (.int de), .val (.int ss), .val (.int se), .unset, .unset, .unset, .unset, .unset, .unset, .unset] [(.int ss), (.int de), (.int ds), (.int ln), (.ref b1), (.ref b1)]))
  refine OGo.st (fun _ k => XS.iload X1.here hx rfl (hb hby at_8) rfl k) ?_
  show OGo p.tables e below Φ (T1.setTop (mkF m 10 #[.val (.int ln), .val (.int ds), .val (.int de), .val (.int ss), .val (.int se), .unset, .unset, .unset, .unset, .unset, .unset, .unset] [(.int se), (.int ss), (.int de), (.int ds), (.int ln), (.ref b1), (.ref b1)]))
  obtain ⟨_, T2, L2, X2, hQ2, st2⟩ := own_callSp X1 hx hZ rfl hown (ow3 hw) (ow4 hw) (ow2 hw) (ow5 hw) (by decide) (rm2 l Z a0 hw [] b1 ln ds de ss se (.int (0 : Int32)) (.int (0 : Int32)) (.int (0 : Int32)) (.int (0 : Int32)) (.int (0 : Int32)) h1 n0 Zs1 A1 gb1 F1_15 F1_17 F1_19 F1_21 F1_23) e1 (W := 1) (by decide) (by decide) (by decide) (by decide) (pc := 10) (ls := #[.val (.int ln), .val (.int ds), .val (.int de), .val (.int ss), .val (.int se), .unset, .unset, .unset, .unset, .unset, .unset, .unset]) (stk := [(.int se), (.int ss), (.int de), (.int ds), (.int ln), (.ref b1), (.ref b1)]) (by rw [hml]; rfl) (a := b1) (argsL := [(.int ln), (.int ds), (.int de), (.int ss), (.int se)]) (rest := [(.ref b1)]) (lenOf pd1 rfl) rfl rfl (Nat.le_of_eq rfl) (hb hby at_10)
  obtain ⟨rfl, Nq2, Kq2, Eq2, Fq2_0, Fq2_1, Fq2_2, Fq2_3, Fq2_4⟩ := hQ2
  have N2 := Fr.app N0 Nq2
  have Zs2 : n0 ≤ T2.heap.size := Nat.le_trans Zs1 Kq2.1
  refine OGo.st st2 ?_
  show OGo p.tables e below Φ (T2.setTop (mkF m 13 #[.val (.int ln), .val (.int ds), .val (.int de), .val (.int ss), .val (.int se), .unset, .unset, .unset, .unset, .unset, .unset, .unset] [(.ref b1)]))
  refine OGo.st (fun _ k => XS.astore X2.here hx rfl (hb hby at_13) rfl rfl (l' := #[.val (.int ln), .val (.int ds), .val (.int de), .val (.int ss), .val (.int se), .val (.ref b1), .unset, .unset, .unset, .unset, .unset, .unset]) rfl k) ?_
  show OGo p.tables e below Φ (T2.setTop (mkF m 15 #[.val (.int ln), .val (.int ds), .val (.int de), .val (.int ss), .val (.int se), .val (.ref b1), .unset, .unset, .unset, .unset, .unset, .unset] []))
  obtain ⟨T3, h3, X3, e3, E3, A3, D3, U3, st3⟩ := newO X2 hx hZ hown (ow0 hw) (ow1 hw) (ow2 hw) rfl (g := (mkF m 15 #[.val (.int ln), .val (.int ds), .val (.int de), .val (.int ss), .val (.int se), .val (.ref b1), .unset, .unset, .unset, .unset, .unset, .unset] [])) rfl (hb hby at_15) (by decide) (by decide)
  obtain ⟨b3, g3⟩ : ∃ z, z = T2.heap.size := ⟨_, rfl⟩
  rw [← g3] at A3 D3 st3 U3
  have ne3_b1 : b1 ≠ b3 := by rw [g3]; exact Nat.ne_of_lt Eq2.lt
  have F4 := Eq2.ext E3
  have F5 := Fq2_0.ext E3
  have F6 := Fq2_1.ext E3
  have F7 := Fq2_2.ext E3
  have F8 := Fq2_3.ext E3
  have F9 := Fq2_4.ext E3
  have gb3 : n0 ≤ b3 := Nat.le_trans Zs2 (Nat.le_of_eq g3.symm)
  have Zs3 : n0 ≤ h3.size := Nat.le_trans Zs2 E3.1
  have F3_15 : Fld Z h3 b3 "com/example/hydromeme/hydromeme/NetworkFile$PipeLine" "line" "I" (.int (0 : Int32)) := D3 (Or.inr (ow15 hw)) (ty := .int) (by decide)
  have F3_17 : Fld Z h3 b3 "com/example/hydromeme/hydromeme/NetworkFile$PipeLine" "diameterStart" "I" (.int (0 : Int32)) := D3 (Or.inr (ow17 hw)) (ty := .int) (by decide)
  have F3_19 : Fld Z h3 b3 "com/example/hydromeme/hydromeme/NetworkFile$PipeLine" "diameterEnd" "I" (.int (0 : Int32)) := D3 (Or.inr (ow19 hw)) (ty := .int) (by decide)
  have F3_21 : Fld Z h3 b3 "com/example/hydromeme/hydromeme/NetworkFile$PipeLine" "statusStart" "I" (.int (0 : Int32)) := D3 (Or.inr (ow21 hw)) (ty := .int) (by decide)
  have F3_23 : Fld Z h3 b3 "com/example/hydromeme/hydromeme/NetworkFile$PipeLine" "statusEnd" "I" (.int (0 : Int32)) := D3 (Or.inr (ow23 hw)) (ty := .int) (by decide)
  refine OGo.st (st3) ?_
  show OGo p.tables e below Φ (T3.setTop (mkF m 18 #[.val (.int ln), .val (.int ds), .val (.int de), .val (.int ss), .val (.int se), .val (.ref b1), .unset, .unset, .unset, .unset, .unset, .unset] [(.ref b3)]))
  refine OGo.st (fun _ k => XS.dup X3.here hx rfl (hb hby at_18) rfl rfl k) ?_
  show OGo p.tables e below Φ (T3.setTop (mkF m 19 #[.val (.int ln), .val (.int ds), .val (.int de), .val (.int ss), .val (.int se), .val (.ref b1), .unset, .unset, .unset, .unset, .unset, .unset] [(.ref b3), (.ref b3)]))
  refine OGo.st (fun _ k => XS.iloadN X3.here hx rfl (hb hby at_19) rfl k) ?_
  show OGo p.tables e below Φ (T3.setTop (mkF m 20 #[.val (.int ln), .val (.int ds), .val (.int de), .val (.int ss), .val (.int se), .val (.ref b1), .unset, .unset, .unset, .unset, .unset, .unset] [(.int ln), (.ref b3), (.ref b3)]))
  refine OGo.st (fun _ k => XS.iloadN X3.here hx rfl (hb hby at_20) rfl k) ?_
  show OGo p.tables e below Φ (T3.setTop (mkF m 21 #[.val (.int ln), .val (.int ds), .val (.int de), .val (.int ss), .val (.int se), .val (.ref b1), .unset, .unset, .unset, .unset, .unset, .unset] [(.int ds), (.int ln), (.ref b3), (.ref b3)]))
  refine OGo.st (fun _ k => XS.iloadN X3.here hx rfl (hb hby at_21) rfl k) ?_
  show OGo p.tables e below Φ (T3.setTop (mkF m 22 #[.val (.int ln), .val (.int ds), .val (.int de), .val (.int ss), .val (.int se), .val (.ref b1), .unset, .unset, .unset, .unset, .unset, .unset] [(.int de), (.int ds), (.int ln), (.ref b3), (.ref b3)]))
  refine OGo.st (fun _ k => XS.iloadN X3.here hx rfl (hb hby at_22) rfl k) ?_
  show OGo p.tables e below Φ (T3.setTop (mkF m 23 #[.val (.int ln), .val (.int ds), .val (.int de), .val (.int ss), .val (.int se), .val (.ref b1), .unset, .unset, .unset, .unset, .unset, .unset] [(.int ss), (.int de), (.int ds), (.int ln), (.ref b3), (.ref b3)]))
  refine OGo.st (fun _ k => XS.iloadN X3.here hx rfl (hb hby at_23) rfl k) ?_
  show OGo p.tables e below Φ (T3.setTop (mkF m 24 #[.val (.int ln), .val (.int ds), .val (.int de), .val (.int ss), .val (.int se), .val (.ref b1), .unset, .unset, .unset, .unset, .unset, .unset] [(.int ss), (.int ss), (.int de), (.int ds), (.int ln), (.ref b3), (.ref b3)]))
  obtain ⟨_, T10, L10, X10, hQ10, st10⟩ := own_callSp X3 hx hZ rfl hown (ow3 hw) (ow4 hw) (ow2 hw) (ow5 hw) (by decide) (rm2 l Z a0 hw [] b3 ln ds de ss ss (.int (0 : Int32)) (.int (0 : Int32)) (.int (0 : Int32)) (.int (0 : Int32)) (.int (0 : Int32)) h3 n0 Zs3 A3 gb3 F3_15 F3_17 F3_19 F3_21 F3_23) e3 (W := 1) (by decide) (by decide) (by decide) (by decide) (pc := 24) (ls := #[.val (.int ln), .val (.int ds), .val (.int de), .val (.int ss), .val (.int se), .val (.ref b1), .unset, .unset, .unset, .unset, .unset, .unset]) (stk := [(.int ss), (.int ss), (.int de), (.int ds), (.int ln), (.ref b3), (.ref b3)]) (by rw [hml]; rfl) (a := b3) (argsL := [(.int ln), (.int ds), (.int de), (.int ss), (.int ss)]) (rest := [(.ref b3)]) (lenOf pd1 rfl) rfl rfl (Nat.le_of_eq rfl) (hb hby at_24)
  obtain ⟨rfl, Nq10, Kq10, Eq10, Fq10_0, Fq10_1, Fq10_2, Fq10_3, Fq10_4⟩ := hQ10
  have N10 := Fr.app N2 Nq10
  have Zs10 : n0 ≤ T10.heap.size := Nat.le_trans Zs3 Kq10.1
  have F11 := F4.keep Kq10
  have F12 := F5.keep Kq10 (ninS ne3_b1 nin0)
  have F13 := F6.keep Kq10 (ninS ne3_b1 nin0)
  have F14 := F7.keep Kq10 (ninS ne3_b1 nin0)
  have F15 := F8.keep Kq10 (ninS ne3_b1 nin0)
  have F16 := F9.keep Kq10 (ninS ne3_b1 nin0)
  refine OGo.st st10 ?_
  show OGo p.tables e below Φ (T10.setTop (mkF m 27 #[.val (.int ln), .val (.int ds), .val (.int de), .val (.int ss), .val (.int se), .val (.ref b1), .unset, .unset, .unset, .unset, .unset, .unset] [(.ref b3)]))
  refine OGo.st (fun _ k => XS.astore X10.here hx rfl (hb hby at_27) rfl rfl (l' := #[.val (.int ln), .val (.int ds), .val (.int de), .val (.int ss), .val (.int se), .val (.ref b1), .val (.ref b3), .unset, .unset, .unset, .unset, .unset]) rfl k) ?_
  show OGo p.tables e below Φ (T10.setTop (mkF m 29 #[.val (.int ln), .val (.int ds), .val (.int de), .val (.int ss), .val (.int se), .val (.ref b1), .val (.ref b3), .unset, .unset, .unset, .unset, .unset] []))
  obtain ⟨T17, h17, X17, e17, E17, A17, D17, U17, st17⟩ := newO X10 hx hZ hown (ow0 hw) (ow1 hw) (ow2 hw) rfl (g := (mkF m 29 #[.val (.int ln), .val (.int ds), .val (.int de), .val (.int ss), .val (.int se), .val (.ref b1), .val (.ref b3), .unset, .unset, .unset, .unset, .unset] [])) rfl (hb hby at_29) (by decide) (by decide)
  obtain ⟨b17, g17⟩ : ∃ z, z = T10.heap.size := ⟨_, rfl⟩
  rw [← g17] at A17 D17 st17 U17
  have ne17_b1 : b1 ≠ b17 := by rw [g17]; exact Nat.ne_of_lt F11.lt
  have ne17_b3 : b3 ≠ b17 := by rw [g17]; exact Nat.ne_of_lt Eq10.lt
  have F18 := F11.ext E17
  have F19 := F12.ext E17
  have F20 := F13.ext E17
  have F21 := F14.ext E17
  have F22 := F15.ext E17
  have F23 := F16.ext E17
  have F24 := Eq10.ext E17
  have F25 := Fq10_0.ext E17
  have F26 := Fq10_1.ext E17
  have F27 := Fq10_2.ext E17
  have F28 := Fq10_3.ext E17
  have F29 := Fq10_4.ext E17
  have gb17 : n0 ≤ b17 := Nat.le_trans Zs10 (Nat.le_of_eq g17.symm)
  have Zs17 : n0 ≤ h17.size := Nat.le_trans Zs10 E17.1
  have F17_15 : Fld Z h17 b17 "com/example/hydromeme/hydromeme/NetworkFile$PipeLine" "line" "I" (.int (0 : Int32)) := D17 (Or.inr (ow15 hw)) (ty := .int) (by decide)
  have F17_17 : Fld Z h17 b17 "com/example/hydromeme/hydromeme/NetworkFile$PipeLine" "diameterStart" "I" (.int (0 : Int32)) := D17 (Or.inr (ow17 hw)) (ty := .int) (by decide)
  have F17_19 : Fld Z h17 b17 "com/example/hydromeme/hydromeme/NetworkFile$PipeLine" "diameterEnd" "I" (.int (0 : Int32)) := D17 (Or.inr (ow19 hw)) (ty := .int) (by decide)
  have F17_21 : Fld Z h17 b17 "com/example/hydromeme/hydromeme/NetworkFile$PipeLine" "statusStart" "I" (.int (0 : Int32)) := D17 (Or.inr (ow21 hw)) (ty := .int) (by decide)
  have F17_23 : Fld Z h17 b17 "com/example/hydromeme/hydromeme/NetworkFile$PipeLine" "statusEnd" "I" (.int (0 : Int32)) := D17 (Or.inr (ow23 hw)) (ty := .int) (by decide)
  refine OGo.st (st17) ?_
  show OGo p.tables e below Φ (T17.setTop (mkF m 32 #[.val (.int ln), .val (.int ds), .val (.int de), .val (.int ss), .val (.int se), .val (.ref b1), .val (.ref b3), .unset, .unset, .unset, .unset, .unset] [(.ref b17)]))
  refine OGo.st (fun _ k => XS.dup X17.here hx rfl (hb hby at_32) rfl rfl k) ?_
  show OGo p.tables e below Φ (T17.setTop (mkF m 33 #[.val (.int ln), .val (.int ds), .val (.int de), .val (.int ss), .val (.int se), .val (.ref b1), .val (.ref b3), .unset, .unset, .unset, .unset, .unset] [(.ref b17), (.ref b17)]))
  refine OGo.st (fun _ k => XS.iloadN X17.here hx rfl (hb hby at_33) rfl k) ?_
  show OGo p.tables e below Φ (T17.setTop (mkF m 34 #[.val (.int ln), .val (.int ds), .val (.int de), .val (.int ss), .val (.int se), .val (.ref b1), .val (.ref b3), .unset, .unset, .unset, .unset, .unset] [(.int ln), (.ref b17), (.ref b17)]))
  refine OGo.st (fun _ k => XS.iloadN X17.here hx rfl (hb hby at_34) rfl k) ?_
  show OGo p.tables e below Φ (T17.setTop (mkF m 35 #[.val (.int ln), .val (.int ds), .val (.int de), .val (.int ss), .val (.int se), .val (.ref b1), .val (.ref b3), .unset, .unset, .unset, .unset, .unset] [(.int ds), (.int ln), (.ref b17), (.ref b17)]))
  refine OGo.st (fun _ k => XS.iloadN X17.here hx rfl (hb hby at_35) rfl k) ?_
  show OGo p.tables e below Φ (T17.setTop (mkF m 36 #[.val (.int ln), .val (.int ds), .val (.int de), .val (.int ss), .val (.int se), .val (.ref b1), .val (.ref b3), .unset, .unset, .unset, .unset, .unset] [(.int de), (.int ds), (.int ln), (.ref b17), (.ref b17)]))
  refine OGo.st (fun _ k => XS.iload X17.here hx rfl (hb hby at_36) rfl k) ?_
  show OGo p.tables e below Φ (T17.setTop (mkF m 38 #[.val (.int ln), .val (.int ds), .val (.int de), .val (.int ss), .val (.int se), .val (.ref b1), .val (.ref b3), .unset, .unset, .unset, .unset, .unset] [(.int se), (.int de), (.int ds), (.int ln), (.ref b17), (.ref b17)]))
  refine OGo.st (fun _ k => XS.iloadN X17.here hx rfl (hb hby at_38) rfl k) ?_
  show OGo p.tables e below Φ (T17.setTop (mkF m 39 #[.val (.int ln), .val (.int ds), .val (.int de), .val (.int ss), .val (.int se), .val (.ref b1), .val (.ref b3), .unset, .unset, .unset, .unset, .unset] [(.int ss), (.int se), (.int de), (.int ds), (.int ln), (.ref b17), (.ref b17)]))
  obtain ⟨_, T30, L30, X30, hQ30, st30⟩ := own_callSp X17 hx hZ rfl hown (ow3 hw) (ow4 hw) (ow2 hw) (ow5 hw) (by decide) (rm2 l Z a0 hw [] b17 ln ds de se ss (.int (0 : Int32)) (.int (0 : Int32)) (.int (0 : Int32)) (.int (0 : Int32)) (.int (0 : Int32)) h17 n0 Zs17 A17 gb17 F17_15 F17_17 F17_19 F17_21 F17_23) e17 (W := 1) (by decide) (by decide) (by decide) (by decide) (pc := 39) (ls := #[.val (.int ln), .val (.int ds), .val (.int de), .val (.int ss), .val (.int se), .val (.ref b1), .val (.ref b3), .unset, .unset, .unset, .unset, .unset]) (stk := [(.int ss), (.int se), (.int de), (.int ds), (.int ln), (.ref b17), (.ref b17)]) (by rw [hml]; rfl) (a := b17) (argsL := [(.int ln), (.int ds), (.int de), (.int se), (.int ss)]) (rest := [(.ref b17)]) (lenOf pd1 rfl) rfl rfl (Nat.le_of_eq rfl) (hb hby at_39)
  obtain ⟨rfl, Nq30, Kq30, Eq30, Fq30_0, Fq30_1, Fq30_2, Fq30_3, Fq30_4⟩ := hQ30
  have N30 := Fr.app N10 Nq30
  have Zs30 : n0 ≤ T30.heap.size := Nat.le_trans Zs17 Kq30.1
  have F31 := F18.keep Kq30
  have F32 := F19.keep Kq30 (ninS ne17_b1 nin0)
  have F33 := F20.keep Kq30 (ninS ne17_b1 nin0)
  have F34 := F21.keep Kq30 (ninS ne17_b1 nin0)
  have F35 := F22.keep Kq30 (ninS ne17_b1 nin0)
  have F36 := F23.keep Kq30 (ninS ne17_b1 nin0)
  have F37 := F24.keep Kq30
  have F38 := F25.keep Kq30 (ninS ne17_b3 nin0)
  have F39 := F26.keep Kq30 (ninS ne17_b3 nin0)
  have F40 := F27.keep Kq30 (ninS ne17_b3 nin0)
  have F41 := F28.keep Kq30 (ninS ne17_b3 nin0)
  have F42 := F29.keep Kq30 (ninS ne17_b3 nin0)
  refine OGo.st st30 ?_
  show OGo p.tables e below Φ (T30.setTop (mkF m 42 #[.val (.int ln), .val (.int ds), .val (.int de), .val (.int ss), .val (.int se), .val (.ref b1), .val (.ref b3), .unset, .unset, .unset, .unset, .unset] [(.ref b17)]))
  refine OGo.st (fun _ k => XS.astore X30.here hx rfl (hb hby at_42) rfl rfl (l' := #[.val (.int ln), .val (.int ds), .val (.int de), .val (.int ss), .val (.int se), .val (.ref b1), .val (.ref b3), .val (.ref b17), .unset, .unset, .unset, .unset]) rfl k) ?_
  show OGo p.tables e below Φ (T30.setTop (mkF m 44 #[.val (.int ln), .val (.int ds), .val (.int de), .val (.int ss), .val (.int se), .val (.ref b1), .val (.ref b3), .val (.ref b17), .unset, .unset, .unset, .unset] []))
  refine OGo.st (fun _ k => XS.iload X30.here hx rfl (hb hby at_44) rfl k) ?_
  show OGo p.tables e below Φ (T30.setTop (mkF m 46 #[.val (.int ln), .val (.int ds), .val (.int de), .val (.int ss), .val (.int se), .val (.ref b1), .val (.ref b3), .val (.ref b17), .unset, .unset, .unset, .unset] [(.int se)]))
  refine OGo.st (fun _ k => XT.i2l X30.here hx rfl (hb hby at_46) rfl k) ?_
  show OGo p.tables e below Φ (T30.setTop (mkF m 47 #[.val (.int ln), .val (.int ds), .val (.int de), .val (.int ss), .val (.int se), .val (.ref b1), .val (.ref b3), .val (.ref b17), .unset, .unset, .unset, .unset] [(.long (se.toInt64))]))
  refine OGo.st (fun _ k => XS.iloadN X30.here hx rfl (hb hby at_47) rfl k) ?_
  show OGo p.tables e below Φ (T30.setTop (mkF m 48 #[.val (.int ln), .val (.int ds), .val (.int de), .val (.int ss), .val (.int se), .val (.ref b1), .val (.ref b3), .val (.ref b17), .unset, .unset, .unset, .unset] [(.int ss), (.long (se.toInt64))]))
  refine OGo.st (fun _ k => XT.i2l X30.here hx rfl (hb hby at_48) rfl k) ?_
  show OGo p.tables e below Φ (T30.setTop (mkF m 49 #[.val (.int ln), .val (.int ds), .val (.int de), .val (.int ss), .val (.int se), .val (.ref b1), .val (.ref b3), .val (.ref b17), .unset, .unset, .unset, .unset] [(.long (ss.toInt64)), (.long (se.toInt64))]))
  refine OGo.st (fun _ k => XT.lsub X30.here hx rfl (hb hby at_49) rfl k) ?_
  show OGo p.tables e below Φ (T30.setTop (mkF m 50 #[.val (.int ln), .val (.int ds), .val (.int de), .val (.int ss), .val (.int se), .val (.ref b1), .val (.ref b3), .val (.ref b17), .unset, .unset, .unset, .unset] [(.long ((se.toInt64) - (ss.toInt64)))]))
  refine OGo.st (fun _ k => XT.lconst X30.here hx rfl (hb hby at_50) k) ?_
  show OGo p.tables e below Φ (T30.setTop (mkF m 51 #[.val (.int ln), .val (.int ds), .val (.int de), .val (.int ss), .val (.int se), .val (.ref b1), .val (.ref b3), .val (.ref b17), .unset, .unset, .unset, .unset] [(.long (0 : Int64)), (.long ((se.toInt64) - (ss.toInt64)))]))
  refine OGo.st (fun _ k => XT.lcmp X30.here hx rfl (hb hby at_51) rfl k) ?_
  show OGo p.tables e below Φ (T30.setTop (mkF m 52 #[.val (.int ln), .val (.int ds), .val (.int de), .val (.int ss), .val (.int se), .val (.ref b1), .val (.ref b3), .val (.ref b17), .unset, .unset, .unset, .unset] [(.int (XT.cmpL ((se.toInt64) - (ss.toInt64)) (0 : Int64)))]))
  by_cases hc43 : (0 : Int64) < ((se.toInt64) - (ss.toInt64))
  · refine OGo.st (fun _ k => XS.ifNo X30.here hx rfl (hb hby at_52) rfl (XT.ll_le_f hc43) k) ?_
    show OGo p.tables e below Φ (T30.setTop (mkF m 55 #[.val (.int ln), .val (.int ds), .val (.int de), .val (.int ss), .val (.int se), .val (.ref b1), .val (.ref b3), .val (.ref b17), .unset, .unset, .unset, .unset] []))
    refine OGo.st (fun _ k => XS.iconst X30.here hx rfl (hb hby at_55) k) ?_
    show OGo p.tables e below Φ (T30.setTop (mkF m 56 #[.val (.int ln), .val (.int ds), .val (.int de), .val (.int ss), .val (.int se), .val (.ref b1), .val (.ref b3), .val (.ref b17), .unset, .unset, .unset, .unset] [(.int (1 : Int32))]))
    refine OGo.st (fun _ k => XS.goto X30.here hx rfl (pc0 := 56) (pc' := 60) rfl (hb hby at_56) (by decide) (by decide) k) ?_
    show OGo p.tables e below Φ (T30.setTop (mkF m 60 #[.val (.int ln), .val (.int ds), .val (.int de), .val (.int ss), .val (.int se), .val (.ref b1), .val (.ref b3), .val (.ref b17), .unset, .unset, .unset, .unset] [(.int (1 : Int32))]))
    refine OGo.st (fun _ k => XS.istore X30.here hx rfl (hb hby at_60) rfl (l' := #[.val (.int ln), .val (.int ds), .val (.int de), .val (.int ss), .val (.int se), .val (.ref b1), .val (.ref b3), .val (.ref b17), .val (.int (1 : Int32)), .unset, .unset, .unset]) rfl k) ?_
    show OGo p.tables e below Φ (T30.setTop (mkF m 62 #[.val (.int ln), .val (.int ds), .val (.int de), .val (.int ss), .val (.int se), .val (.ref b1), .val (.ref b3), .val (.ref b17), .val (.int (1 : Int32)), .unset, .unset, .unset] []))
    refine OGo.st (fun _ k => XS.aload X30.here hx rfl (hb hby at_62) rfl rfl k) ?_
    show OGo p.tables e below Φ (T30.setTop (mkF m 64 #[.val (.int ln), .val (.int ds), .val (.int de), .val (.int ss), .val (.int se), .val (.ref b1), .val (.ref b3), .val (.ref b17), .val (.int (1 : Int32)), .unset, .unset, .unset] [(.ref b1)]))
    obtain ⟨_, T44, L44, X44, hQ44, st44⟩ := own_callVi X30 hx hZ hown (ow24 hw) (ow25 hw) (notFace_of_selects (args := #[]) (mvT hZ (ow27 hw))) (ow27 hw) (ow26 hw) (ow2 hw) (ow28 hw) (by decide) (rm3 l Z a0 hw [] b1 ss se T30.heap n0 Zs30 F35 F36) rfl (W := 0) (by decide) (by decide) (by decide) (by decide) F31 (pc := 64) (ls := #[.val (.int ln), .val (.int ds), .val (.int de), .val (.int ss), .val (.int se), .val (.ref b1), .val (.ref b3), .val (.ref b17), .val (.int (1 : Int32)), .unset, .unset, .unset]) (stk := [(.ref b1)]) (by rw [hml]; rfl) (argsL := []) (rest := []) (lenOf pd2 rfl) rfl rfl (Nat.le_of_eq rfl) (hb hby at_64)
    obtain ⟨rfl, Nq44, e44⟩ := hQ44
    have N44 := Fr.app N30 Nq44
    refine OGo.st st44 ?_
    show OGo p.tables e below Φ (T44.setTop (mkF m 67 #[.val (.int ln), .val (.int ds), .val (.int de), .val (.int ss), .val (.int se), .val (.ref b1), .val (.ref b3), .val (.ref b17), .val (.int (1 : Int32)), .unset, .unset, .unset] [(.int (own_hs ss se))]))
    refine OGo.st (fun _ k => XS.istore X44.here hx rfl (hb hby at_67) rfl (l' := #[.val (.int ln), .val (.int ds), .val (.int de), .val (.int ss), .val (.int se), .val (.ref b1), .val (.ref b3), .val (.ref b17), .val (.int (1 : Int32)), .val (.int (own_hs ss se)), .unset, .unset]) rfl k) ?_
    show OGo p.tables e below Φ (T44.setTop (mkF m 69 #[.val (.int ln), .val (.int ds), .val (.int de), .val (.int ss), .val (.int se), .val (.ref b1), .val (.ref b3), .val (.ref b17), .val (.int (1 : Int32)), .val (.int (own_hs ss se)), .unset, .unset] []))
    refine OGo.st (fun _ k => XS.aload X44.here hx rfl (hb hby at_69) rfl rfl k) ?_
    show OGo p.tables e below Φ (T44.setTop (mkF m 71 #[.val (.int ln), .val (.int ds), .val (.int de), .val (.int ss), .val (.int se), .val (.ref b1), .val (.ref b3), .val (.ref b17), .val (.int (1 : Int32)), .val (.int (own_hs ss se)), .unset, .unset] [(.ref b3)]))
    obtain ⟨_, T45, L45, X45, hQ45, st45⟩ := own_callVi X44 hx hZ hown (ow24 hw) (ow25 hw) (notFace_of_selects (args := #[]) (mvT hZ (ow27 hw))) (ow27 hw) (ow26 hw) (ow2 hw) (ow28 hw) (by decide) (rm3 l Z a0 hw [] b3 ss ss T30.heap n0 Zs30 F41 F42) e44 (W := 0) (by decide) (by decide) (by decide) (by decide) F37 (pc := 71) (ls := #[.val (.int ln), .val (.int ds), .val (.int de), .val (.int ss), .val (.int se), .val (.ref b1), .val (.ref b3), .val (.ref b17), .val (.int (1 : Int32)), .val (.int (own_hs ss se)), .unset, .unset]) (stk := [(.ref b3)]) (by rw [hml]; rfl) (argsL := []) (rest := []) (lenOf pd2 rfl) rfl rfl (Nat.le_of_eq rfl) (hb hby at_71)
    obtain ⟨rfl, Nq45, e45⟩ := hQ45
    have N45 := Fr.app N44 Nq45
    refine OGo.st st45 ?_
    show OGo p.tables e below Φ (T45.setTop (mkF m 74 #[.val (.int ln), .val (.int ds), .val (.int de), .val (.int ss), .val (.int se), .val (.ref b1), .val (.ref b3), .val (.ref b17), .val (.int (1 : Int32)), .val (.int (own_hs ss se)), .unset, .unset] [(.int (own_hs ss ss))]))
    refine OGo.st (fun _ k => XS.istore X45.here hx rfl (hb hby at_74) rfl (l' := #[.val (.int ln), .val (.int ds), .val (.int de), .val (.int ss), .val (.int se), .val (.ref b1), .val (.ref b3), .val (.ref b17), .val (.int (1 : Int32)), .val (.int (own_hs ss se)), .val (.int (own_hs ss ss)), .unset]) rfl k) ?_
    show OGo p.tables e below Φ (T45.setTop (mkF m 76 #[.val (.int ln), .val (.int ds), .val (.int de), .val (.int ss), .val (.int se), .val (.ref b1), .val (.ref b3), .val (.ref b17), .val (.int (1 : Int32)), .val (.int (own_hs ss se)), .val (.int (own_hs ss ss)), .unset] []))
    refine OGo.st (fun _ k => XS.aload X45.here hx rfl (hb hby at_76) rfl rfl k) ?_
    show OGo p.tables e below Φ (T45.setTop (mkF m 78 #[.val (.int ln), .val (.int ds), .val (.int de), .val (.int ss), .val (.int se), .val (.ref b1), .val (.ref b3), .val (.ref b17), .val (.int (1 : Int32)), .val (.int (own_hs ss se)), .val (.int (own_hs ss ss)), .unset] [(.ref b17)]))
    obtain ⟨_, T46, L46, X46, hQ46, st46⟩ := own_callVi X45 hx hZ hown (ow24 hw) (ow25 hw) (notFace_of_selects (args := #[]) (mvT hZ (ow27 hw))) (ow27 hw) (ow26 hw) (ow2 hw) (ow28 hw) (by decide) (rm3 l Z a0 hw [] b17 se ss T30.heap n0 Zs30 Fq30_3 Fq30_4) e45 (W := 0) (by decide) (by decide) (by decide) (by decide) Eq30 (pc := 78) (ls := #[.val (.int ln), .val (.int ds), .val (.int de), .val (.int ss), .val (.int se), .val (.ref b1), .val (.ref b3), .val (.ref b17), .val (.int (1 : Int32)), .val (.int (own_hs ss se)), .val (.int (own_hs ss ss)), .unset]) (stk := [(.ref b17)]) (by rw [hml]; rfl) (argsL := []) (rest := []) (lenOf pd2 rfl) rfl rfl (Nat.le_of_eq rfl) (hb hby at_78)
    obtain ⟨rfl, Nq46, e46⟩ := hQ46
    have N46 := Fr.app N45 Nq46
    refine OGo.st st46 ?_
    show OGo p.tables e below Φ (T46.setTop (mkF m 81 #[.val (.int ln), .val (.int ds), .val (.int de), .val (.int ss), .val (.int se), .val (.ref b1), .val (.ref b3), .val (.ref b17), .val (.int (1 : Int32)), .val (.int (own_hs ss se)), .val (.int (own_hs ss ss)), .unset] [(.int (own_hs se ss))]))
    refine OGo.st (fun _ k => XS.istore X46.here hx rfl (hb hby at_81) rfl (l' := #[.val (.int ln), .val (.int ds), .val (.int de), .val (.int ss), .val (.int se), .val (.ref b1), .val (.ref b3), .val (.ref b17), .val (.int (1 : Int32)), .val (.int (own_hs ss se)), .val (.int (own_hs ss ss)), .val (.int (own_hs se ss))]) rfl k) ?_
    show OGo p.tables e below Φ (T46.setTop (mkF m 83 #[.val (.int ln), .val (.int ds), .val (.int de), .val (.int ss), .val (.int se), .val (.ref b1), .val (.ref b3), .val (.ref b17), .val (.int (1 : Int32)), .val (.int (own_hs ss se)), .val (.int (own_hs ss ss)), .val (.int (own_hs se ss))] []))
    refine OGo.st (fun _ k => XS.iload X46.here hx rfl (hb hby at_83) rfl k) ?_
    show OGo p.tables e below Φ (T46.setTop (mkF m 85 #[.val (.int ln), .val (.int ds), .val (.int de), .val (.int ss), .val (.int se), .val (.ref b1), .val (.ref b3), .val (.ref b17), .val (.int (1 : Int32)), .val (.int (own_hs ss se)), .val (.int (own_hs ss ss)), .val (.int (own_hs se ss))] [(.int (own_hs ss se))]))
    refine OGo.st (fun _ k => XS.iload X46.here hx rfl (hb hby at_85) rfl k) ?_
    show OGo p.tables e below Φ (T46.setTop (mkF m 87 #[.val (.int ln), .val (.int ds), .val (.int de), .val (.int ss), .val (.int se), .val (.ref b1), .val (.ref b3), .val (.ref b17), .val (.int (1 : Int32)), .val (.int (own_hs ss se)), .val (.int (own_hs ss ss)), .val (.int (own_hs se ss))] [(.int (1 : Int32)), (.int (own_hs ss se))]))
    by_cases hc47 : (own_hs ss se) = (1 : Int32)
    · refine OGo.st (fun _ k => XS.icmpYes X46.here hx rfl (pc0 := 87) (pc' := 92) rfl (hb hby at_87) rfl (XT.ii_eq_t hc47) (by decide) (by decide) k) ?_
      show OGo p.tables e below Φ (T46.setTop (mkF m 92 #[.val (.int ln), .val (.int ds), .val (.int de), .val (.int ss), .val (.int se), .val (.ref b1), .val (.ref b3), .val (.ref b17), .val (.int (1 : Int32)), .val (.int (own_hs ss se)), .val (.int (own_hs ss ss)), .val (.int (own_hs se ss))] []))
      refine OGo.st (fun _ k => XS.iload X46.here hx rfl (hb hby at_92) rfl k) ?_
      show OGo p.tables e below Φ (T46.setTop (mkF m 94 #[.val (.int ln), .val (.int ds), .val (.int de), .val (.int ss), .val (.int se), .val (.ref b1), .val (.ref b3), .val (.ref b17), .val (.int (1 : Int32)), .val (.int (own_hs ss se)), .val (.int (own_hs ss ss)), .val (.int (own_hs se ss))] [(.int (own_hs ss ss))]))
      by_cases hc48 : (own_hs ss ss) = 0
      · refine OGo.st (fun _ k => XS.ifYes X46.here hx rfl (pc0 := 94) (pc' := 99) rfl (hb hby at_94) rfl (XT.i0_eq_t hc48) (by decide) (by decide) k) ?_
        show OGo p.tables e below Φ (T46.setTop (mkF m 99 #[.val (.int ln), .val (.int ds), .val (.int de), .val (.int ss), .val (.int se), .val (.ref b1), .val (.ref b3), .val (.ref b17), .val (.int (1 : Int32)), .val (.int (own_hs ss se)), .val (.int (own_hs ss ss)), .val (.int (own_hs se ss))] []))
        refine OGo.st (fun _ k => XS.iloadN X46.here hx rfl (hb hby at_99) rfl k) ?_
        show OGo p.tables e below Φ (T46.setTop (mkF m 100 #[.val (.int ln), .val (.int ds), .val (.int de), .val (.int ss), .val (.int se), .val (.ref b1), .val (.ref b3), .val (.ref b17), .val (.int (1 : Int32)), .val (.int (own_hs ss se)), .val (.int (own_hs ss ss)), .val (.int (own_hs se ss))] [(.int ss)]))
        refine OGo.st (fun _ k => XS.iload X46.here hx rfl (hb hby at_100) rfl k) ?_
        show OGo p.tables e below Φ (T46.setTop (mkF m 102 #[.val (.int ln), .val (.int ds), .val (.int de), .val (.int ss), .val (.int se), .val (.ref b1), .val (.ref b3), .val (.ref b17), .val (.int (1 : Int32)), .val (.int (own_hs ss se)), .val (.int (own_hs ss ss)), .val (.int (own_hs se ss))] [(.int se), (.int ss)]))
        by_cases hc49 : ss = se
        · refine OGo.st (fun _ k => XS.icmpYes X46.here hx rfl (pc0 := 102) (pc' := 114) rfl (hb hby at_102) rfl (XT.ii_eq_t hc49) (by decide) (by decide) k) ?_
          show OGo p.tables e below Φ (T46.setTop (mkF m 114 #[.val (.int ln), .val (.int ds), .val (.int de), .val (.int ss), .val (.int se), .val (.ref b1), .val (.ref b3), .val (.ref b17), .val (.int (1 : Int32)), .val (.int (own_hs ss se)), .val (.int (own_hs ss ss)), .val (.int (own_hs se ss))] []))
          refine OGo.st (fun _ k => XS.iloadN X46.here hx rfl (hb hby at_114) rfl k) ?_
          show OGo p.tables e below Φ (T46.setTop (mkF m 115 #[.val (.int ln), .val (.int ds), .val (.int de), .val (.int ss), .val (.int se), .val (.ref b1), .val (.ref b3), .val (.ref b17), .val (.int (1 : Int32)), .val (.int (own_hs ss se)), .val (.int (own_hs ss ss)), .val (.int (own_hs se ss))] [(.int ss)]))
          refine OGo.st (fun _ k => XS.iload X46.here hx rfl (hb hby at_115) rfl k) ?_
          show OGo p.tables e below Φ (T46.setTop (mkF m 117 #[.val (.int ln), .val (.int ds), .val (.int de), .val (.int ss), .val (.int se), .val (.ref b1), .val (.ref b3), .val (.ref b17), .val (.int (1 : Int32)), .val (.int (own_hs ss se)), .val (.int (own_hs ss ss)), .val (.int (own_hs se ss))] [(.int se), (.int ss)]))
          refine OGo.st (fun _ k => XS.icmpNo X46.here hx rfl (hb hby at_117) rfl (XT.ii_ne_f hc49) k) ?_
          show OGo p.tables e below Φ (T46.setTop (mkF m 120 #[.val (.int ln), .val (.int ds), .val (.int de), .val (.int ss), .val (.int se), .val (.ref b1), .val (.ref b3), .val (.ref b17), .val (.int (1 : Int32)), .val (.int (own_hs ss se)), .val (.int (own_hs ss ss)), .val (.int (own_hs se ss))] []))
          refine OGo.st (fun _ k => XS.iload X46.here hx rfl (hb hby at_120) rfl k) ?_
          show OGo p.tables e below Φ (T46.setTop (mkF m 122 #[.val (.int ln), .val (.int ds), .val (.int de), .val (.int ss), .val (.int se), .val (.ref b1), .val (.ref b3), .val (.ref b17), .val (.int (1 : Int32)), .val (.int (own_hs ss se)), .val (.int (own_hs ss ss)), .val (.int (own_hs se ss))] [(.int (own_hs ss se))]))
          by_cases hc50 : (own_hs ss se) = 0
          · refine OGo.st (fun _ k => XS.ifNo X46.here hx rfl (hb hby at_122) rfl (XT.i0_ne_f hc50) k) ?_
            show OGo p.tables e below Φ (T46.setTop (mkF m 125 #[.val (.int ln), .val (.int ds), .val (.int de), .val (.int ss), .val (.int se), .val (.ref b1), .val (.ref b3), .val (.ref b17), .val (.int (1 : Int32)), .val (.int (own_hs ss se)), .val (.int (own_hs ss ss)), .val (.int (own_hs se ss))] []))
            refine OGo.st (fun _ k => XS.iload X46.here hx rfl (hb hby at_125) rfl k) ?_
            show OGo p.tables e below Φ (T46.setTop (mkF m 127 #[.val (.int ln), .val (.int ds), .val (.int de), .val (.int ss), .val (.int se), .val (.ref b1), .val (.ref b3), .val (.ref b17), .val (.int (1 : Int32)), .val (.int (own_hs ss se)), .val (.int (own_hs ss ss)), .val (.int (own_hs se ss))] [(.int (own_hs se ss))]))
            by_cases hc51 : (own_hs se ss) = 0
            · refine OGo.st (fun _ k => XS.ifYes X46.here hx rfl (pc0 := 127) (pc' := 132) rfl (hb hby at_127) rfl (XT.i0_eq_t hc51) (by decide) (by decide) k) ?_
              show OGo p.tables e below Φ (T46.setTop (mkF m 132 #[.val (.int ln), .val (.int ds), .val (.int de), .val (.int ss), .val (.int se), .val (.ref b1), .val (.ref b3), .val (.ref b17), .val (.int (1 : Int32)), .val (.int (own_hs ss se)), .val (.int (own_hs ss ss)), .val (.int (own_hs se ss))] []))
              refine OGo.st (fun _ k => XS.iconst X46.here hx rfl (hb hby at_132) k) ?_
              show OGo p.tables e below Φ (T46.setTop (mkF m 133 #[.val (.int ln), .val (.int ds), .val (.int de), .val (.int ss), .val (.int se), .val (.ref b1), .val (.ref b3), .val (.ref b17), .val (.int (1 : Int32)), .val (.int (own_hs ss se)), .val (.int (own_hs ss ss)), .val (.int (own_hs se ss))] [(.int (1 : Int32))]))
              refine OGo.fin X46 hlk (v := (some (.int (1 : Int32)))) (fun h => by rw [hret] at h; cases h) (by decide) (by decide) (fun fs hr => X46.ireturnOut hx hret rfl (by simp) (hb hby at_133) hr) fun U eU hF => hΦ _ _ _ ?_ hF
              rw [eU, e46]
              show Q_rm0 Z ln ds de ss se h0 n0 _ _ _
              exact ⟨rfl, N46⟩
            · refine OGo.st (fun _ k => XS.ifNo X46.here hx rfl (hb hby at_127) rfl (XT.i0_eq_f hc51) k) ?_
              show OGo p.tables e below Φ (T46.setTop (mkF m 130 #[.val (.int ln), .val (.int ds), .val (.int de), .val (.int ss), .val (.int se), .val (.ref b1), .val (.ref b3), .val (.ref b17), .val (.int (1 : Int32)), .val (.int (own_hs ss se)), .val (.int (own_hs ss ss)), .val (.int (own_hs se ss))] []))
              refine OGo.st (fun _ k => XS.iconst X46.here hx rfl (hb hby at_130) k) ?_
              show OGo p.tables e below Φ (T46.setTop (mkF m 131 #[.val (.int ln), .val (.int ds), .val (.int de), .val (.int ss), .val (.int se), .val (.ref b1), .val (.ref b3), .val (.ref b17), .val (.int (1 : Int32)), .val (.int (own_hs ss se)), .val (.int (own_hs ss ss)), .val (.int (own_hs se ss))] [(.int (0 : Int32))]))
              exfalso; simp only [own_lt64, own_hs] at hc43 hc47 hc48 hc49 hc50 hc51; rcases Decidable.em (ss < se) with q1 | q1 <;> rcases Decidable.em (se < ss) with q2 | q2 <;> first | exact absurd q2 (own_asym q1) | (simp_all [own_irr]; done) | (have q3 := own_eq32 q1 q2; simp_all [own_irr]; done)
          · refine OGo.st (fun _ k => XS.ifYes X46.here hx rfl (pc0 := 122) (pc' := 130) rfl (hb hby at_122) rfl (XT.i0_ne_t hc50) (by decide) (by decide) k) ?_
            show OGo p.tables e below Φ (T46.setTop (mkF m 130 #[.val (.int ln), .val (.int ds), .val (.int de), .val (.int ss), .val (.int se), .val (.ref b1), .val (.ref b3), .val (.ref b17), .val (.int (1 : Int32)), .val (.int (own_hs ss se)), .val (.int (own_hs ss ss)), .val (.int (own_hs se ss))] []))
            refine OGo.st (fun _ k => XS.iconst X46.here hx rfl (hb hby at_130) k) ?_
            show OGo p.tables e below Φ (T46.setTop (mkF m 131 #[.val (.int ln), .val (.int ds), .val (.int de), .val (.int ss), .val (.int se), .val (.ref b1), .val (.ref b3), .val (.ref b17), .val (.int (1 : Int32)), .val (.int (own_hs ss se)), .val (.int (own_hs ss ss)), .val (.int (own_hs se ss))] [(.int (0 : Int32))]))
            exfalso; simp only [own_lt64, own_hs] at hc43 hc47 hc48 hc49 hc50; rcases Decidable.em (ss < se) with q1 | q1 <;> rcases Decidable.em (se < ss) with q2 | q2 <;> first | exact absurd q2 (own_asym q1) | (simp_all [own_irr]; done) | (have q3 := own_eq32 q1 q2; simp_all [own_irr]; done)
        · refine OGo.st (fun _ k => XS.icmpNo X46.here hx rfl (hb hby at_102) rfl (XT.ii_eq_f hc49) k) ?_
          show OGo p.tables e below Φ (T46.setTop (mkF m 105 #[.val (.int ln), .val (.int ds), .val (.int de), .val (.int ss), .val (.int se), .val (.ref b1), .val (.ref b3), .val (.ref b17), .val (.int (1 : Int32)), .val (.int (own_hs ss se)), .val (.int (own_hs ss ss)), .val (.int (own_hs se ss))] []))
          refine OGo.st (fun _ k => XS.iload X46.here hx rfl (hb hby at_105) rfl k) ?_
          show OGo p.tables e below Φ (T46.setTop (mkF m 107 #[.val (.int ln), .val (.int ds), .val (.int de), .val (.int ss), .val (.int se), .val (.ref b1), .val (.ref b3), .val (.ref b17), .val (.int (1 : Int32)), .val (.int (own_hs ss se)), .val (.int (own_hs ss ss)), .val (.int (own_hs se ss))] [(.int (own_hs ss se))]))
          refine OGo.st (fun _ k => XS.iload X46.here hx rfl (hb hby at_107) rfl k) ?_
          show OGo p.tables e below Φ (T46.setTop (mkF m 109 #[.val (.int ln), .val (.int ds), .val (.int de), .val (.int ss), .val (.int se), .val (.ref b1), .val (.ref b3), .val (.ref b17), .val (.int (1 : Int32)), .val (.int (own_hs ss se)), .val (.int (own_hs ss ss)), .val (.int (own_hs se ss))] [(.int (own_hs se ss)), (.int (own_hs ss se))]))
          by_cases hc52 : (own_hs ss se) = (own_hs se ss)
          · refine OGo.st (fun _ k => XS.icmpNo X46.here hx rfl (hb hby at_109) rfl (XT.ii_ne_f hc52) k) ?_
            show OGo p.tables e below Φ (T46.setTop (mkF m 112 #[.val (.int ln), .val (.int ds), .val (.int de), .val (.int ss), .val (.int se), .val (.ref b1), .val (.ref b3), .val (.ref b17), .val (.int (1 : Int32)), .val (.int (own_hs ss se)), .val (.int (own_hs ss ss)), .val (.int (own_hs se ss))] []))
            refine OGo.st (fun _ k => XS.iconst X46.here hx rfl (hb hby at_112) k) ?_
            show OGo p.tables e below Φ (T46.setTop (mkF m 113 #[.val (.int ln), .val (.int ds), .val (.int de), .val (.int ss), .val (.int se), .val (.ref b1), .val (.ref b3), .val (.ref b17), .val (.int (1 : Int32)), .val (.int (own_hs ss se)), .val (.int (own_hs ss ss)), .val (.int (own_hs se ss))] [(.int (0 : Int32))]))
            exfalso; simp only [own_lt64, own_hs] at hc43 hc47 hc48 hc49 hc52; rcases Decidable.em (ss < se) with q1 | q1 <;> rcases Decidable.em (se < ss) with q2 | q2 <;> first | exact absurd q2 (own_asym q1) | (simp_all [own_irr]; done) | (have q3 := own_eq32 q1 q2; simp_all [own_irr]; done)
          · refine OGo.st (fun _ k => XS.icmpYes X46.here hx rfl (pc0 := 109) (pc' := 114) rfl (hb hby at_109) rfl (XT.ii_ne_t hc52) (by decide) (by decide) k) ?_
            show OGo p.tables e below Φ (T46.setTop (mkF m 114 #[.val (.int ln), .val (.int ds), .val (.int de), .val (.int ss), .val (.int se), .val (.ref b1), .val (.ref b3), .val (.ref b17), .val (.int (1 : Int32)), .val (.int (own_hs ss se)), .val (.int (own_hs ss ss)), .val (.int (own_hs se ss))] []))
            refine OGo.st (fun _ k => XS.iloadN X46.here hx rfl (hb hby at_114) rfl k) ?_
            show OGo p.tables e below Φ (T46.setTop (mkF m 115 #[.val (.int ln), .val (.int ds), .val (.int de), .val (.int ss), .val (.int se), .val (.ref b1), .val (.ref b3), .val (.ref b17), .val (.int (1 : Int32)), .val (.int (own_hs ss se)), .val (.int (own_hs ss ss)), .val (.int (own_hs se ss))] [(.int ss)]))
            refine OGo.st (fun _ k => XS.iload X46.here hx rfl (hb hby at_115) rfl k) ?_
            show OGo p.tables e below Φ (T46.setTop (mkF m 117 #[.val (.int ln), .val (.int ds), .val (.int de), .val (.int ss), .val (.int se), .val (.ref b1), .val (.ref b3), .val (.ref b17), .val (.int (1 : Int32)), .val (.int (own_hs ss se)), .val (.int (own_hs ss ss)), .val (.int (own_hs se ss))] [(.int se), (.int ss)]))
            refine OGo.st (fun _ k => XS.icmpYes X46.here hx rfl (pc0 := 117) (pc' := 132) rfl (hb hby at_117) rfl (XT.ii_ne_t hc49) (by decide) (by decide) k) ?_
            show OGo p.tables e below Φ (T46.setTop (mkF m 132 #[.val (.int ln), .val (.int ds), .val (.int de), .val (.int ss), .val (.int se), .val (.ref b1), .val (.ref b3), .val (.ref b17), .val (.int (1 : Int32)), .val (.int (own_hs ss se)), .val (.int (own_hs ss ss)), .val (.int (own_hs se ss))] []))
            refine OGo.st (fun _ k => XS.iconst X46.here hx rfl (hb hby at_132) k) ?_
            show OGo p.tables e below Φ (T46.setTop (mkF m 133 #[.val (.int ln), .val (.int ds), .val (.int de), .val (.int ss), .val (.int se), .val (.ref b1), .val (.ref b3), .val (.ref b17), .val (.int (1 : Int32)), .val (.int (own_hs ss se)), .val (.int (own_hs ss ss)), .val (.int (own_hs se ss))] [(.int (1 : Int32))]))
            refine OGo.fin X46 hlk (v := (some (.int (1 : Int32)))) (fun h => by rw [hret] at h; cases h) (by decide) (by decide) (fun fs hr => X46.ireturnOut hx hret rfl (by simp) (hb hby at_133) hr) fun U eU hF => hΦ _ _ _ ?_ hF
            rw [eU, e46]
            show Q_rm0 Z ln ds de ss se h0 n0 _ _ _
            exact ⟨rfl, N46⟩
      · refine OGo.st (fun _ k => XS.ifNo X46.here hx rfl (hb hby at_94) rfl (XT.i0_eq_f hc48) k) ?_
        show OGo p.tables e below Φ (T46.setTop (mkF m 97 #[.val (.int ln), .val (.int ds), .val (.int de), .val (.int ss), .val (.int se), .val (.ref b1), .val (.ref b3), .val (.ref b17), .val (.int (1 : Int32)), .val (.int (own_hs ss se)), .val (.int (own_hs ss ss)), .val (.int (own_hs se ss))] []))
        refine OGo.st (fun _ k => XS.iconst X46.here hx rfl (hb hby at_97) k) ?_
        show OGo p.tables e below Φ (T46.setTop (mkF m 98 #[.val (.int ln), .val (.int ds), .val (.int de), .val (.int ss), .val (.int se), .val (.ref b1), .val (.ref b3), .val (.ref b17), .val (.int (1 : Int32)), .val (.int (own_hs ss se)), .val (.int (own_hs ss ss)), .val (.int (own_hs se ss))] [(.int (0 : Int32))]))
        exfalso; simp only [own_lt64, own_hs] at hc43 hc47 hc48; rcases Decidable.em (ss < se) with q1 | q1 <;> rcases Decidable.em (se < ss) with q2 | q2 <;> first | exact absurd q2 (own_asym q1) | (simp_all [own_irr]; done) | (have q3 := own_eq32 q1 q2; simp_all [own_irr]; done)
    · refine OGo.st (fun _ k => XS.icmpNo X46.here hx rfl (hb hby at_87) rfl (XT.ii_eq_f hc47) k) ?_
      show OGo p.tables e below Φ (T46.setTop (mkF m 90 #[.val (.int ln), .val (.int ds), .val (.int de), .val (.int ss), .val (.int se), .val (.ref b1), .val (.ref b3), .val (.ref b17), .val (.int (1 : Int32)), .val (.int (own_hs ss se)), .val (.int (own_hs ss ss)), .val (.int (own_hs se ss))] []))
      refine OGo.st (fun _ k => XS.iconst X46.here hx rfl (hb hby at_90) k) ?_
      show OGo p.tables e below Φ (T46.setTop (mkF m 91 #[.val (.int ln), .val (.int ds), .val (.int de), .val (.int ss), .val (.int se), .val (.ref b1), .val (.ref b3), .val (.ref b17), .val (.int (1 : Int32)), .val (.int (own_hs ss se)), .val (.int (own_hs ss ss)), .val (.int (own_hs se ss))] [(.int (0 : Int32))]))
      exfalso; simp only [own_lt64, own_hs] at hc43 hc47; rcases Decidable.em (ss < se) with q1 | q1 <;> rcases Decidable.em (se < ss) with q2 | q2 <;> first | exact absurd q2 (own_asym q1) | (simp_all [own_irr]; done) | (have q3 := own_eq32 q1 q2; simp_all [own_irr]; done)
  · refine OGo.st (fun _ k => XS.ifYes X30.here hx rfl (pc0 := 52) (pc' := 59) rfl (hb hby at_52) rfl (XT.ll_le_t hc43) (by decide) (by decide) k) ?_
    show OGo p.tables e below Φ (T30.setTop (mkF m 59 #[.val (.int ln), .val (.int ds), .val (.int de), .val (.int ss), .val (.int se), .val (.ref b1), .val (.ref b3), .val (.ref b17), .unset, .unset, .unset, .unset] []))
    refine OGo.st (fun _ k => XS.iconst X30.here hx rfl (hb hby at_59) k) ?_
    show OGo p.tables e below Φ (T30.setTop (mkF m 60 #[.val (.int ln), .val (.int ds), .val (.int de), .val (.int ss), .val (.int se), .val (.ref b1), .val (.ref b3), .val (.ref b17), .unset, .unset, .unset, .unset] [(.int (0 : Int32))]))
    refine OGo.st (fun _ k => XS.istore X30.here hx rfl (hb hby at_60) rfl (l' := #[.val (.int ln), .val (.int ds), .val (.int de), .val (.int ss), .val (.int se), .val (.ref b1), .val (.ref b3), .val (.ref b17), .val (.int (0 : Int32)), .unset, .unset, .unset]) rfl k) ?_
    show OGo p.tables e below Φ (T30.setTop (mkF m 62 #[.val (.int ln), .val (.int ds), .val (.int de), .val (.int ss), .val (.int se), .val (.ref b1), .val (.ref b3), .val (.ref b17), .val (.int (0 : Int32)), .unset, .unset, .unset] []))
    refine OGo.st (fun _ k => XS.aload X30.here hx rfl (hb hby at_62) rfl rfl k) ?_
    show OGo p.tables e below Φ (T30.setTop (mkF m 64 #[.val (.int ln), .val (.int ds), .val (.int de), .val (.int ss), .val (.int se), .val (.ref b1), .val (.ref b3), .val (.ref b17), .val (.int (0 : Int32)), .unset, .unset, .unset] [(.ref b1)]))
    obtain ⟨_, T53, L53, X53, hQ53, st53⟩ := own_callVi X30 hx hZ hown (ow24 hw) (ow25 hw) (notFace_of_selects (args := #[]) (mvT hZ (ow27 hw))) (ow27 hw) (ow26 hw) (ow2 hw) (ow28 hw) (by decide) (rm3 l Z a0 hw [] b1 ss se T30.heap n0 Zs30 F35 F36) rfl (W := 0) (by decide) (by decide) (by decide) (by decide) F31 (pc := 64) (ls := #[.val (.int ln), .val (.int ds), .val (.int de), .val (.int ss), .val (.int se), .val (.ref b1), .val (.ref b3), .val (.ref b17), .val (.int (0 : Int32)), .unset, .unset, .unset]) (stk := [(.ref b1)]) (by rw [hml]; rfl) (argsL := []) (rest := []) (lenOf pd2 rfl) rfl rfl (Nat.le_of_eq rfl) (hb hby at_64)
    obtain ⟨rfl, Nq53, e53⟩ := hQ53
    have N53 := Fr.app N30 Nq53
    refine OGo.st st53 ?_
    show OGo p.tables e below Φ (T53.setTop (mkF m 67 #[.val (.int ln), .val (.int ds), .val (.int de), .val (.int ss), .val (.int se), .val (.ref b1), .val (.ref b3), .val (.ref b17), .val (.int (0 : Int32)), .unset, .unset, .unset] [(.int (own_hs ss se))]))
    refine OGo.st (fun _ k => XS.istore X53.here hx rfl (hb hby at_67) rfl (l' := #[.val (.int ln), .val (.int ds), .val (.int de), .val (.int ss), .val (.int se), .val (.ref b1), .val (.ref b3), .val (.ref b17), .val (.int (0 : Int32)), .val (.int (own_hs ss se)), .unset, .unset]) rfl k) ?_
    show OGo p.tables e below Φ (T53.setTop (mkF m 69 #[.val (.int ln), .val (.int ds), .val (.int de), .val (.int ss), .val (.int se), .val (.ref b1), .val (.ref b3), .val (.ref b17), .val (.int (0 : Int32)), .val (.int (own_hs ss se)), .unset, .unset] []))
    refine OGo.st (fun _ k => XS.aload X53.here hx rfl (hb hby at_69) rfl rfl k) ?_
    show OGo p.tables e below Φ (T53.setTop (mkF m 71 #[.val (.int ln), .val (.int ds), .val (.int de), .val (.int ss), .val (.int se), .val (.ref b1), .val (.ref b3), .val (.ref b17), .val (.int (0 : Int32)), .val (.int (own_hs ss se)), .unset, .unset] [(.ref b3)]))
    obtain ⟨_, T54, L54, X54, hQ54, st54⟩ := own_callVi X53 hx hZ hown (ow24 hw) (ow25 hw) (notFace_of_selects (args := #[]) (mvT hZ (ow27 hw))) (ow27 hw) (ow26 hw) (ow2 hw) (ow28 hw) (by decide) (rm3 l Z a0 hw [] b3 ss ss T30.heap n0 Zs30 F41 F42) e53 (W := 0) (by decide) (by decide) (by decide) (by decide) F37 (pc := 71) (ls := #[.val (.int ln), .val (.int ds), .val (.int de), .val (.int ss), .val (.int se), .val (.ref b1), .val (.ref b3), .val (.ref b17), .val (.int (0 : Int32)), .val (.int (own_hs ss se)), .unset, .unset]) (stk := [(.ref b3)]) (by rw [hml]; rfl) (argsL := []) (rest := []) (lenOf pd2 rfl) rfl rfl (Nat.le_of_eq rfl) (hb hby at_71)
    obtain ⟨rfl, Nq54, e54⟩ := hQ54
    have N54 := Fr.app N53 Nq54
    refine OGo.st st54 ?_
    show OGo p.tables e below Φ (T54.setTop (mkF m 74 #[.val (.int ln), .val (.int ds), .val (.int de), .val (.int ss), .val (.int se), .val (.ref b1), .val (.ref b3), .val (.ref b17), .val (.int (0 : Int32)), .val (.int (own_hs ss se)), .unset, .unset] [(.int (own_hs ss ss))]))
    refine OGo.st (fun _ k => XS.istore X54.here hx rfl (hb hby at_74) rfl (l' := #[.val (.int ln), .val (.int ds), .val (.int de), .val (.int ss), .val (.int se), .val (.ref b1), .val (.ref b3), .val (.ref b17), .val (.int (0 : Int32)), .val (.int (own_hs ss se)), .val (.int (own_hs ss ss)), .unset]) rfl k) ?_
    show OGo p.tables e below Φ (T54.setTop (mkF m 76 #[.val (.int ln), .val (.int ds), .val (.int de), .val (.int ss), .val (.int se), .val (.ref b1), .val (.ref b3), .val (.ref b17), .val (.int (0 : Int32)), .val (.int (own_hs ss se)), .val (.int (own_hs ss ss)), .unset] []))
    refine OGo.st (fun _ k => XS.aload X54.here hx rfl (hb hby at_76) rfl rfl k) ?_
    show OGo p.tables e below Φ (T54.setTop (mkF m 78 #[.val (.int ln), .val (.int ds), .val (.int de), .val (.int ss), .val (.int se), .val (.ref b1), .val (.ref b3), .val (.ref b17), .val (.int (0 : Int32)), .val (.int (own_hs ss se)), .val (.int (own_hs ss ss)), .unset] [(.ref b17)]))
    obtain ⟨_, T55, L55, X55, hQ55, st55⟩ := own_callVi X54 hx hZ hown (ow24 hw) (ow25 hw) (notFace_of_selects (args := #[]) (mvT hZ (ow27 hw))) (ow27 hw) (ow26 hw) (ow2 hw) (ow28 hw) (by decide) (rm3 l Z a0 hw [] b17 se ss T30.heap n0 Zs30 Fq30_3 Fq30_4) e54 (W := 0) (by decide) (by decide) (by decide) (by decide) Eq30 (pc := 78) (ls := #[.val (.int ln), .val (.int ds), .val (.int de), .val (.int ss), .val (.int se), .val (.ref b1), .val (.ref b3), .val (.ref b17), .val (.int (0 : Int32)), .val (.int (own_hs ss se)), .val (.int (own_hs ss ss)), .unset]) (stk := [(.ref b17)]) (by rw [hml]; rfl) (argsL := []) (rest := []) (lenOf pd2 rfl) rfl rfl (Nat.le_of_eq rfl) (hb hby at_78)
    obtain ⟨rfl, Nq55, e55⟩ := hQ55
    have N55 := Fr.app N54 Nq55
    refine OGo.st st55 ?_
    show OGo p.tables e below Φ (T55.setTop (mkF m 81 #[.val (.int ln), .val (.int ds), .val (.int de), .val (.int ss), .val (.int se), .val (.ref b1), .val (.ref b3), .val (.ref b17), .val (.int (0 : Int32)), .val (.int (own_hs ss se)), .val (.int (own_hs ss ss)), .unset] [(.int (own_hs se ss))]))
    refine OGo.st (fun _ k => XS.istore X55.here hx rfl (hb hby at_81) rfl (l' := #[.val (.int ln), .val (.int ds), .val (.int de), .val (.int ss), .val (.int se), .val (.ref b1), .val (.ref b3), .val (.ref b17), .val (.int (0 : Int32)), .val (.int (own_hs ss se)), .val (.int (own_hs ss ss)), .val (.int (own_hs se ss))]) rfl k) ?_
    show OGo p.tables e below Φ (T55.setTop (mkF m 83 #[.val (.int ln), .val (.int ds), .val (.int de), .val (.int ss), .val (.int se), .val (.ref b1), .val (.ref b3), .val (.ref b17), .val (.int (0 : Int32)), .val (.int (own_hs ss se)), .val (.int (own_hs ss ss)), .val (.int (own_hs se ss))] []))
    refine OGo.st (fun _ k => XS.iload X55.here hx rfl (hb hby at_83) rfl k) ?_
    show OGo p.tables e below Φ (T55.setTop (mkF m 85 #[.val (.int ln), .val (.int ds), .val (.int de), .val (.int ss), .val (.int se), .val (.ref b1), .val (.ref b3), .val (.ref b17), .val (.int (0 : Int32)), .val (.int (own_hs ss se)), .val (.int (own_hs ss ss)), .val (.int (own_hs se ss))] [(.int (own_hs ss se))]))
    refine OGo.st (fun _ k => XS.iload X55.here hx rfl (hb hby at_85) rfl k) ?_
    show OGo p.tables e below Φ (T55.setTop (mkF m 87 #[.val (.int ln), .val (.int ds), .val (.int de), .val (.int ss), .val (.int se), .val (.ref b1), .val (.ref b3), .val (.ref b17), .val (.int (0 : Int32)), .val (.int (own_hs ss se)), .val (.int (own_hs ss ss)), .val (.int (own_hs se ss))] [(.int (0 : Int32)), (.int (own_hs ss se))]))
    by_cases hc56 : (own_hs ss se) = (0 : Int32)
    · refine OGo.st (fun _ k => XS.icmpYes X55.here hx rfl (pc0 := 87) (pc' := 92) rfl (hb hby at_87) rfl (XT.ii_eq_t hc56) (by decide) (by decide) k) ?_
      show OGo p.tables e below Φ (T55.setTop (mkF m 92 #[.val (.int ln), .val (.int ds), .val (.int de), .val (.int ss), .val (.int se), .val (.ref b1), .val (.ref b3), .val (.ref b17), .val (.int (0 : Int32)), .val (.int (own_hs ss se)), .val (.int (own_hs ss ss)), .val (.int (own_hs se ss))] []))
      refine OGo.st (fun _ k => XS.iload X55.here hx rfl (hb hby at_92) rfl k) ?_
      show OGo p.tables e below Φ (T55.setTop (mkF m 94 #[.val (.int ln), .val (.int ds), .val (.int de), .val (.int ss), .val (.int se), .val (.ref b1), .val (.ref b3), .val (.ref b17), .val (.int (0 : Int32)), .val (.int (own_hs ss se)), .val (.int (own_hs ss ss)), .val (.int (own_hs se ss))] [(.int (own_hs ss ss))]))
      by_cases hc57 : (own_hs ss ss) = 0
      · refine OGo.st (fun _ k => XS.ifYes X55.here hx rfl (pc0 := 94) (pc' := 99) rfl (hb hby at_94) rfl (XT.i0_eq_t hc57) (by decide) (by decide) k) ?_
        show OGo p.tables e below Φ (T55.setTop (mkF m 99 #[.val (.int ln), .val (.int ds), .val (.int de), .val (.int ss), .val (.int se), .val (.ref b1), .val (.ref b3), .val (.ref b17), .val (.int (0 : Int32)), .val (.int (own_hs ss se)), .val (.int (own_hs ss ss)), .val (.int (own_hs se ss))] []))
        refine OGo.st (fun _ k => XS.iloadN X55.here hx rfl (hb hby at_99) rfl k) ?_
        show OGo p.tables e below Φ (T55.setTop (mkF m 100 #[.val (.int ln), .val (.int ds), .val (.int de), .val (.int ss), .val (.int se), .val (.ref b1), .val (.ref b3), .val (.ref b17), .val (.int (0 : Int32)), .val (.int (own_hs ss se)), .val (.int (own_hs ss ss)), .val (.int (own_hs se ss))] [(.int ss)]))
        refine OGo.st (fun _ k => XS.iload X55.here hx rfl (hb hby at_100) rfl k) ?_
        show OGo p.tables e below Φ (T55.setTop (mkF m 102 #[.val (.int ln), .val (.int ds), .val (.int de), .val (.int ss), .val (.int se), .val (.ref b1), .val (.ref b3), .val (.ref b17), .val (.int (0 : Int32)), .val (.int (own_hs ss se)), .val (.int (own_hs ss ss)), .val (.int (own_hs se ss))] [(.int se), (.int ss)]))
        by_cases hc58 : ss = se
        · refine OGo.st (fun _ k => XS.icmpYes X55.here hx rfl (pc0 := 102) (pc' := 114) rfl (hb hby at_102) rfl (XT.ii_eq_t hc58) (by decide) (by decide) k) ?_
          show OGo p.tables e below Φ (T55.setTop (mkF m 114 #[.val (.int ln), .val (.int ds), .val (.int de), .val (.int ss), .val (.int se), .val (.ref b1), .val (.ref b3), .val (.ref b17), .val (.int (0 : Int32)), .val (.int (own_hs ss se)), .val (.int (own_hs ss ss)), .val (.int (own_hs se ss))] []))
          refine OGo.st (fun _ k => XS.iloadN X55.here hx rfl (hb hby at_114) rfl k) ?_
          show OGo p.tables e below Φ (T55.setTop (mkF m 115 #[.val (.int ln), .val (.int ds), .val (.int de), .val (.int ss), .val (.int se), .val (.ref b1), .val (.ref b3), .val (.ref b17), .val (.int (0 : Int32)), .val (.int (own_hs ss se)), .val (.int (own_hs ss ss)), .val (.int (own_hs se ss))] [(.int ss)]))
          refine OGo.st (fun _ k => XS.iload X55.here hx rfl (hb hby at_115) rfl k) ?_
          show OGo p.tables e below Φ (T55.setTop (mkF m 117 #[.val (.int ln), .val (.int ds), .val (.int de), .val (.int ss), .val (.int se), .val (.ref b1), .val (.ref b3), .val (.ref b17), .val (.int (0 : Int32)), .val (.int (own_hs ss se)), .val (.int (own_hs ss ss)), .val (.int (own_hs se ss))] [(.int se), (.int ss)]))
          refine OGo.st (fun _ k => XS.icmpNo X55.here hx rfl (hb hby at_117) rfl (XT.ii_ne_f hc58) k) ?_
          show OGo p.tables e below Φ (T55.setTop (mkF m 120 #[.val (.int ln), .val (.int ds), .val (.int de), .val (.int ss), .val (.int se), .val (.ref b1), .val (.ref b3), .val (.ref b17), .val (.int (0 : Int32)), .val (.int (own_hs ss se)), .val (.int (own_hs ss ss)), .val (.int (own_hs se ss))] []))
          refine OGo.st (fun _ k => XS.iload X55.here hx rfl (hb hby at_120) rfl k) ?_
          show OGo p.tables e below Φ (T55.setTop (mkF m 122 #[.val (.int ln), .val (.int ds), .val (.int de), .val (.int ss), .val (.int se), .val (.ref b1), .val (.ref b3), .val (.ref b17), .val (.int (0 : Int32)), .val (.int (own_hs ss se)), .val (.int (own_hs ss ss)), .val (.int (own_hs se ss))] [(.int (own_hs ss se))]))
          by_cases hc59 : (own_hs ss se) = 0
          · refine OGo.st (fun _ k => XS.ifNo X55.here hx rfl (hb hby at_122) rfl (XT.i0_ne_f hc59) k) ?_
            show OGo p.tables e below Φ (T55.setTop (mkF m 125 #[.val (.int ln), .val (.int ds), .val (.int de), .val (.int ss), .val (.int se), .val (.ref b1), .val (.ref b3), .val (.ref b17), .val (.int (0 : Int32)), .val (.int (own_hs ss se)), .val (.int (own_hs ss ss)), .val (.int (own_hs se ss))] []))
            refine OGo.st (fun _ k => XS.iload X55.here hx rfl (hb hby at_125) rfl k) ?_
            show OGo p.tables e below Φ (T55.setTop (mkF m 127 #[.val (.int ln), .val (.int ds), .val (.int de), .val (.int ss), .val (.int se), .val (.ref b1), .val (.ref b3), .val (.ref b17), .val (.int (0 : Int32)), .val (.int (own_hs ss se)), .val (.int (own_hs ss ss)), .val (.int (own_hs se ss))] [(.int (own_hs se ss))]))
            by_cases hc60 : (own_hs se ss) = 0
            · refine OGo.st (fun _ k => XS.ifYes X55.here hx rfl (pc0 := 127) (pc' := 132) rfl (hb hby at_127) rfl (XT.i0_eq_t hc60) (by decide) (by decide) k) ?_
              show OGo p.tables e below Φ (T55.setTop (mkF m 132 #[.val (.int ln), .val (.int ds), .val (.int de), .val (.int ss), .val (.int se), .val (.ref b1), .val (.ref b3), .val (.ref b17), .val (.int (0 : Int32)), .val (.int (own_hs ss se)), .val (.int (own_hs ss ss)), .val (.int (own_hs se ss))] []))
              refine OGo.st (fun _ k => XS.iconst X55.here hx rfl (hb hby at_132) k) ?_
              show OGo p.tables e below Φ (T55.setTop (mkF m 133 #[.val (.int ln), .val (.int ds), .val (.int de), .val (.int ss), .val (.int se), .val (.ref b1), .val (.ref b3), .val (.ref b17), .val (.int (0 : Int32)), .val (.int (own_hs ss se)), .val (.int (own_hs ss ss)), .val (.int (own_hs se ss))] [(.int (1 : Int32))]))
              refine OGo.fin X55 hlk (v := (some (.int (1 : Int32)))) (fun h => by rw [hret] at h; cases h) (by decide) (by decide) (fun fs hr => X55.ireturnOut hx hret rfl (by simp) (hb hby at_133) hr) fun U eU hF => hΦ _ _ _ ?_ hF
              rw [eU, e55]
              show Q_rm0 Z ln ds de ss se h0 n0 _ _ _
              exact ⟨rfl, N55⟩
            · refine OGo.st (fun _ k => XS.ifNo X55.here hx rfl (hb hby at_127) rfl (XT.i0_eq_f hc60) k) ?_
              show OGo p.tables e below Φ (T55.setTop (mkF m 130 #[.val (.int ln), .val (.int ds), .val (.int de), .val (.int ss), .val (.int se), .val (.ref b1), .val (.ref b3), .val (.ref b17), .val (.int (0 : Int32)), .val (.int (own_hs ss se)), .val (.int (own_hs ss ss)), .val (.int (own_hs se ss))] []))
              refine OGo.st (fun _ k => XS.iconst X55.here hx rfl (hb hby at_130) k) ?_
              show OGo p.tables e below Φ (T55.setTop (mkF m 131 #[.val (.int ln), .val (.int ds), .val (.int de), .val (.int ss), .val (.int se), .val (.ref b1), .val (.ref b3), .val (.ref b17), .val (.int (0 : Int32)), .val (.int (own_hs ss se)), .val (.int (own_hs ss ss)), .val (.int (own_hs se ss))] [(.int (0 : Int32))]))
              exfalso; simp only [own_lt64, own_hs] at hc43 hc56 hc57 hc58 hc59 hc60; rcases Decidable.em (ss < se) with q1 | q1 <;> rcases Decidable.em (se < ss) with q2 | q2 <;> first | exact absurd q2 (own_asym q1) | (simp_all [own_irr]; done) | (have q3 := own_eq32 q1 q2; simp_all [own_irr]; done)
          · refine OGo.st (fun _ k => XS.ifYes X55.here hx rfl (pc0 := 122) (pc' := 130) rfl (hb hby at_122) rfl (XT.i0_ne_t hc59) (by decide) (by decide) k) ?_
            show OGo p.tables e below Φ (T55.setTop (mkF m 130 #[.val (.int ln), .val (.int ds), .val (.int de), .val (.int ss), .val (.int se), .val (.ref b1), .val (.ref b3), .val (.ref b17), .val (.int (0 : Int32)), .val (.int (own_hs ss se)), .val (.int (own_hs ss ss)), .val (.int (own_hs se ss))] []))
            refine OGo.st (fun _ k => XS.iconst X55.here hx rfl (hb hby at_130) k) ?_
            show OGo p.tables e below Φ (T55.setTop (mkF m 131 #[.val (.int ln), .val (.int ds), .val (.int de), .val (.int ss), .val (.int se), .val (.ref b1), .val (.ref b3), .val (.ref b17), .val (.int (0 : Int32)), .val (.int (own_hs ss se)), .val (.int (own_hs ss ss)), .val (.int (own_hs se ss))] [(.int (0 : Int32))]))
            exfalso; simp only [own_lt64, own_hs] at hc43 hc56 hc57 hc58 hc59; rcases Decidable.em (ss < se) with q1 | q1 <;> rcases Decidable.em (se < ss) with q2 | q2 <;> first | exact absurd q2 (own_asym q1) | (simp_all [own_irr]; done) | (have q3 := own_eq32 q1 q2; simp_all [own_irr]; done)
        · refine OGo.st (fun _ k => XS.icmpNo X55.here hx rfl (hb hby at_102) rfl (XT.ii_eq_f hc58) k) ?_
          show OGo p.tables e below Φ (T55.setTop (mkF m 105 #[.val (.int ln), .val (.int ds), .val (.int de), .val (.int ss), .val (.int se), .val (.ref b1), .val (.ref b3), .val (.ref b17), .val (.int (0 : Int32)), .val (.int (own_hs ss se)), .val (.int (own_hs ss ss)), .val (.int (own_hs se ss))] []))
          refine OGo.st (fun _ k => XS.iload X55.here hx rfl (hb hby at_105) rfl k) ?_
          show OGo p.tables e below Φ (T55.setTop (mkF m 107 #[.val (.int ln), .val (.int ds), .val (.int de), .val (.int ss), .val (.int se), .val (.ref b1), .val (.ref b3), .val (.ref b17), .val (.int (0 : Int32)), .val (.int (own_hs ss se)), .val (.int (own_hs ss ss)), .val (.int (own_hs se ss))] [(.int (own_hs ss se))]))
          refine OGo.st (fun _ k => XS.iload X55.here hx rfl (hb hby at_107) rfl k) ?_
          show OGo p.tables e below Φ (T55.setTop (mkF m 109 #[.val (.int ln), .val (.int ds), .val (.int de), .val (.int ss), .val (.int se), .val (.ref b1), .val (.ref b3), .val (.ref b17), .val (.int (0 : Int32)), .val (.int (own_hs ss se)), .val (.int (own_hs ss ss)), .val (.int (own_hs se ss))] [(.int (own_hs se ss)), (.int (own_hs ss se))]))
          by_cases hc61 : (own_hs ss se) = (own_hs se ss)
          · refine OGo.st (fun _ k => XS.icmpNo X55.here hx rfl (hb hby at_109) rfl (XT.ii_ne_f hc61) k) ?_
            show OGo p.tables e below Φ (T55.setTop (mkF m 112 #[.val (.int ln), .val (.int ds), .val (.int de), .val (.int ss), .val (.int se), .val (.ref b1), .val (.ref b3), .val (.ref b17), .val (.int (0 : Int32)), .val (.int (own_hs ss se)), .val (.int (own_hs ss ss)), .val (.int (own_hs se ss))] []))
            refine OGo.st (fun _ k => XS.iconst X55.here hx rfl (hb hby at_112) k) ?_
            show OGo p.tables e below Φ (T55.setTop (mkF m 113 #[.val (.int ln), .val (.int ds), .val (.int de), .val (.int ss), .val (.int se), .val (.ref b1), .val (.ref b3), .val (.ref b17), .val (.int (0 : Int32)), .val (.int (own_hs ss se)), .val (.int (own_hs ss ss)), .val (.int (own_hs se ss))] [(.int (0 : Int32))]))
            exfalso; simp only [own_lt64, own_hs] at hc43 hc56 hc57 hc58 hc61; rcases Decidable.em (ss < se) with q1 | q1 <;> rcases Decidable.em (se < ss) with q2 | q2 <;> first | exact absurd q2 (own_asym q1) | (simp_all [own_irr]; done) | (have q3 := own_eq32 q1 q2; simp_all [own_irr]; done)
          · refine OGo.st (fun _ k => XS.icmpYes X55.here hx rfl (pc0 := 109) (pc' := 114) rfl (hb hby at_109) rfl (XT.ii_ne_t hc61) (by decide) (by decide) k) ?_
            show OGo p.tables e below Φ (T55.setTop (mkF m 114 #[.val (.int ln), .val (.int ds), .val (.int de), .val (.int ss), .val (.int se), .val (.ref b1), .val (.ref b3), .val (.ref b17), .val (.int (0 : Int32)), .val (.int (own_hs ss se)), .val (.int (own_hs ss ss)), .val (.int (own_hs se ss))] []))
            refine OGo.st (fun _ k => XS.iloadN X55.here hx rfl (hb hby at_114) rfl k) ?_
            show OGo p.tables e below Φ (T55.setTop (mkF m 115 #[.val (.int ln), .val (.int ds), .val (.int de), .val (.int ss), .val (.int se), .val (.ref b1), .val (.ref b3), .val (.ref b17), .val (.int (0 : Int32)), .val (.int (own_hs ss se)), .val (.int (own_hs ss ss)), .val (.int (own_hs se ss))] [(.int ss)]))
            refine OGo.st (fun _ k => XS.iload X55.here hx rfl (hb hby at_115) rfl k) ?_
            show OGo p.tables e below Φ (T55.setTop (mkF m 117 #[.val (.int ln), .val (.int ds), .val (.int de), .val (.int ss), .val (.int se), .val (.ref b1), .val (.ref b3), .val (.ref b17), .val (.int (0 : Int32)), .val (.int (own_hs ss se)), .val (.int (own_hs ss ss)), .val (.int (own_hs se ss))] [(.int se), (.int ss)]))
            refine OGo.st (fun _ k => XS.icmpYes X55.here hx rfl (pc0 := 117) (pc' := 132) rfl (hb hby at_117) rfl (XT.ii_ne_t hc58) (by decide) (by decide) k) ?_
            show OGo p.tables e below Φ (T55.setTop (mkF m 132 #[.val (.int ln), .val (.int ds), .val (.int de), .val (.int ss), .val (.int se), .val (.ref b1), .val (.ref b3), .val (.ref b17), .val (.int (0 : Int32)), .val (.int (own_hs ss se)), .val (.int (own_hs ss ss)), .val (.int (own_hs se ss))] []))
            refine OGo.st (fun _ k => XS.iconst X55.here hx rfl (hb hby at_132) k) ?_
            show OGo p.tables e below Φ (T55.setTop (mkF m 133 #[.val (.int ln), .val (.int ds), .val (.int de), .val (.int ss), .val (.int se), .val (.ref b1), .val (.ref b3), .val (.ref b17), .val (.int (0 : Int32)), .val (.int (own_hs ss se)), .val (.int (own_hs ss ss)), .val (.int (own_hs se ss))] [(.int (1 : Int32))]))
            refine OGo.fin X55 hlk (v := (some (.int (1 : Int32)))) (fun h => by rw [hret] at h; cases h) (by decide) (by decide) (fun fs hr => X55.ireturnOut hx hret rfl (by simp) (hb hby at_133) hr) fun U eU hF => hΦ _ _ _ ?_ hF
            rw [eU, e55]
            show Q_rm0 Z ln ds de ss se h0 n0 _ _ _
            exact ⟨rfl, N55⟩
      · refine OGo.st (fun _ k => XS.ifNo X55.here hx rfl (hb hby at_94) rfl (XT.i0_eq_f hc57) k) ?_
        show OGo p.tables e below Φ (T55.setTop (mkF m 97 #[.val (.int ln), .val (.int ds), .val (.int de), .val (.int ss), .val (.int se), .val (.ref b1), .val (.ref b3), .val (.ref b17), .val (.int (0 : Int32)), .val (.int (own_hs ss se)), .val (.int (own_hs ss ss)), .val (.int (own_hs se ss))] []))
        refine OGo.st (fun _ k => XS.iconst X55.here hx rfl (hb hby at_97) k) ?_
        show OGo p.tables e below Φ (T55.setTop (mkF m 98 #[.val (.int ln), .val (.int ds), .val (.int de), .val (.int ss), .val (.int se), .val (.ref b1), .val (.ref b3), .val (.ref b17), .val (.int (0 : Int32)), .val (.int (own_hs ss se)), .val (.int (own_hs ss ss)), .val (.int (own_hs se ss))] [(.int (0 : Int32))]))
        exfalso; simp only [own_lt64, own_hs] at hc43 hc56 hc57; rcases Decidable.em (ss < se) with q1 | q1 <;> rcases Decidable.em (se < ss) with q2 | q2 <;> first | exact absurd q2 (own_asym q1) | (simp_all [own_irr]; done) | (have q3 := own_eq32 q1 q2; simp_all [own_irr]; done)
    · refine OGo.st (fun _ k => XS.icmpNo X55.here hx rfl (hb hby at_87) rfl (XT.ii_eq_f hc56) k) ?_
      show OGo p.tables e below Φ (T55.setTop (mkF m 90 #[.val (.int ln), .val (.int ds), .val (.int de), .val (.int ss), .val (.int se), .val (.ref b1), .val (.ref b3), .val (.ref b17), .val (.int (0 : Int32)), .val (.int (own_hs ss se)), .val (.int (own_hs ss ss)), .val (.int (own_hs se ss))] []))
      refine OGo.st (fun _ k => XS.iconst X55.here hx rfl (hb hby at_90) k) ?_
      show OGo p.tables e below Φ (T55.setTop (mkF m 91 #[.val (.int ln), .val (.int ds), .val (.int de), .val (.int ss), .val (.int se), .val (.ref b1), .val (.ref b3), .val (.ref b17), .val (.int (0 : Int32)), .val (.int (own_hs ss se)), .val (.int (own_hs ss ss)), .val (.int (own_hs se ss))] [(.int (0 : Int32))]))
      exfalso; simp only [own_lt64, own_hs] at hc43 hc56; rcases Decidable.em (ss < se) with q1 | q1 <;> rcases Decidable.em (se < ss) with q2 | q2 <;> first | exact absurd q2 (own_asym q1) | (simp_all [own_irr]; done) | (have q3 := own_eq32 q1 q2; simp_all [own_irr]; done)

set_option maxRecDepth 65536 in
set_option maxHeartbeats 40000000 in
theorem comes_1 {Post : Tables → Env → Array Value → State → Outcome → State → Prop} (hpost : ∀ tb e args s v u, (limb_1_1.after args s (.returned v) u = true ∧ limb_1_2.after args s (.returned v) u = true ∧ True) → FrameEnd s (.returned v) u (Jvm.fieldLocs frame_1_writes args s ++ Jvm.arrayLocs frame_1_arrays args s ++ Jvm.staticLocs frame_1_statics s) 16 128 → Post tb e args s (.returned v) u) :
    ArmFor flags0 classFile x code maxLocals ret World_1 tables_1 room_1 Calls_1 rest_1 Pre_1 Post := by
  intro l hfl _ _ p e ha hc hk s m args below hf hA hF happ hP
  obtain ⟨hcalls, hrest, hpre⟩ := hP
  obtain ⟨-, -, -, hnamed, -, -, -, hat⟩ := (Spec.applies_iff hf).mp happ
  obtain ⟨hg, hn⟩ := and_e (Cond.before_iff.mp (show (Jvm.Cond.and given_1 narrow_1).before args s = true from hpre))
  obtain ⟨g0, r0⟩ := and_e hg
  obtain ⟨k0, r1⟩ := and_e r0
  obtain ⟨k1, r2⟩ := and_e r1
  obtain ⟨k2, r3⟩ := and_e r2
  obtain ⟨k3, r4⟩ := and_e r3
  have k4 := r4
  obtain ⟨w0, w1, w2, w3, w4, rfl⟩ : ∃ w0 w1 w2 w3 w4 : Value, args = #[w0, w1, w2, w3, w4] := by
    have hs : args.size = 5 := by simpa [Cond.value, given_1] using g0
    obtain ⟨L⟩ := args
    match L, hs with
    | [w0, w1, w2, w3, w4], _ => exact ⟨w0, w1, w2, w3, w4, rfl⟩
  have hw := fun d (hd : d ∈ tables_1) => atoms_spec (ws := Jvm.Cond.code x code maxLocals ret :: tables_1) hat d (List.mem_cons_of_mem _ hd)
  have hfit : Fit s := fun {y c} hc i hi => by
    obtain ⟨ha, rfl⟩ := Array.getElem?_eq_some_iff.mp hc
    have q := List.all_eq_true.mp ((Array.all_eq_true_iff_forall_mem.mp hF) _ (Array.getElem_mem ha)) i (List.mem_range.mpr hi)
    simpa [Array.getElem?_eq_getElem hi] using q
  obtain ⟨i0, ei0⟩ := is_v k0
  obtain rfl : w0 = (.int i0) := Option.some.inj ei0
  obtain ⟨i1, ei1⟩ := is_v k1
  obtain rfl : w1 = (.int i1) := Option.some.inj ei1
  obtain ⟨i2, ei2⟩ := is_v k2
  obtain rfl : w2 = (.int i2) := Option.some.inj ei2
  obtain ⟨i3, ei3⟩ := is_v k3
  obtain rfl : w3 = (.int i3) := Option.some.inj ei3
  obtain ⟨i4, ei4⟩ := is_v k4
  obtain rfl : w4 = (.int i4) := Option.some.inj ei4
  obtain ⟨n, o, h1, h2, h3, _, L, rfl, ⟨rfl, N⟩, hq⟩ := rm0 l s _ hw tables_1 i0 i1 i2 i3 i4  s.heap s.heap.size (Nat.le_refl _)  p e ha hc hk s m _ below hf ((Spec.applies_iff_loose hf).mp happ).1 ⟨rfl, State.Warmed39.refl s, rfl⟩ trivial
  refine ⟨n, _, h1, h2, h3, hpost _ _ _ _ _ _ ⟨Cond.after_iff.mpr rfl, Cond.after_iff.mpr (eq_i res_at (Term.int_eval (1)) rfl), trivial⟩ ⟨hq.1, hq.2.1, (hq.2.2.sift fun y hy => Or.inr (N y hy)).mono (by decide) (by decide)⟩⟩
theorem main_1_1 : Claimed_1_1 := comes_1 fun _ _ _ _ _ _ h hF => ⟨h.1, hF⟩
theorem main_1_2 : Claimed_1_2 := comes_1 fun _ _ _ _ _ _ h hF => ⟨h.2.1, hF⟩
end Jvm.Pilot.@@N@@
namespace Jvm.Pilot.@@N@@
open Jvm Jvm.ClassFile Sem Op Lib Jvm.Free Jvm.Stand Jvm.Pilot.@@N@@.Jvm.D
/-! MADE BY PROGRAM (witnessworld.py) out of the Statement's table words and the real class files: 10 classes; the members and pool entries that the words name. The judged class is class 1, her method 1. -/
namespace start1
open Jvm.ClassFile
def u (s : String) : CpInfo := .utf8 (stringToUtf16 s)
/-- a pool by its gaps: so many unusable entries, then the entry; so many at the end -/
def gap : Nat → List CpInfo → List CpInfo
  | 0, r => r
  | n + 1, r => .unusable :: gap n r
def poolList (es : List (Nat × CpInfo)) (last : Nat) : List CpInfo := es.foldr (fun e r => gap e.1 (e.2 :: r)) (gap last [])
def pool (es : List (Nat × CpInfo)) (last : Nat) : Array CpInfo := ⟨poolList es last⟩
def fileOf (pool : Array CpInfo) (this : Nat) (attrs : Array Attribute := #[]) (ms : Array MethodInfo := #[]) (fl : Nat := 33) (sup : Nat := 0) (ifs : Array Nat := #[]) (fds : Array FieldInfo := #[]) : ClassFile where
  minorVersion := 0
  majorVersion := 65
  constantPool := pool
  accessFlags := fl
  thisClass := this
  superClass := sup
  interfaces := ifs
  fields := fds
  methods := ms
  attributes := attrs
def plain (name : String) (sup : Option ClassId) : Class where
  name := name
  kind := .ordinary
  loader := none
  accessFlags := 33
  super := sup
  interfaces := #[]
  cf := none
  fields := #[]
  methods := #[]
  instanceTypes := #[]
  staticTypes := #[]
  resolved := #[]
  callSites := []
  init := .initialized
  statics := none
  mirror := none

def pool0 : Array CpInfo := pool [(5, u "<init>"), (0, u "()V"), (1, .class_ 10), (1, u "java/lang/Object")] 113

def k0c0 : Code := { maxStack := 0, maxLocals := 1, code := object_method_1_code, exceptionTable := #[], attributes := #[] }
def k0m0 : Method := { name := "<init>", desc := "()V", sig := { parameters := [], returnType := none }, accessFlags := 1, code := some k0c0 }
/-- java/lang/Object -/
def k0 : Class := { plain "java/lang/Object" none with
  accessFlags := 33
  interfaces := #[]
  cf := some (fileOf pool0 8 #[] #[{ accessFlags := 1, nameIndex := 5, descriptorIndex := 6, attributes := #[] }] 33 0 #[] #[])
  fields := #[]
  methods := #[k0m0]
  instanceTypes := #[]
  staticTypes := #[]
  resolved := Array.replicate 124 none
  statics := none }

def pool1 : Array CpInfo := pool [(2, .class_ 4), (1, u "java/lang/Object"), (0, u "<init>"), (0, u "()V"), (0, .class_ 8), (0, u "com/example/hydromeme/hydromeme/NetworkFile$PipeLine"), (0, .methodref 7 10), (0, .nameAndType 5 11), (0, u "(IIIII)V"), (0, .methodref 7 13), (0, .nameAndType 14 15), (0, u "hasStatus"), (0, u "()Z"), (0, .class_ 17), (0, u "com/example/hydromeme/hydromeme/PipeLineHasStatusPinLaw"), (2, u "law"), (0, u "(IIIII)Z")] 7

def k1m0 : Method := { name := "<init>", desc := "()V", sig := { parameters := [], returnType := none }, accessFlags := 2, code := none }
def k1c1 : Code := { maxStack := 7, maxLocals := 12, code := code, exceptionTable := #[], attributes := #[] }
def k1m1 : Method := { name := "law", desc := "(IIIII)Z", sig := { parameters := [.int, .int, .int, .int, .int], returnType := some .boolean }, accessFlags := 9, code := some k1c1 }
/-- com/example/hydromeme/hydromeme/PipeLineHasStatusPinLaw -/
def k1 : Class := { plain "com/example/hydromeme/hydromeme/PipeLineHasStatusPinLaw" (some 0) with
  accessFlags := 49
  interfaces := #[]
  cf := some (fileOf pool1 16 #[] #[{ accessFlags := 2, nameIndex := 5, descriptorIndex := 6, attributes := #[] }, { accessFlags := 9, nameIndex := 20, descriptorIndex := 21, attributes := #[] }] 49 2 #[] #[])
  fields := #[]
  methods := #[k1m0, k1m1]
  instanceTypes := #[]
  staticTypes := #[]
  resolved := Array.replicate 29 none
  statics := none }

def pool2 : Array CpInfo := pool [(1, .methodref 2 3), (0, .class_ 4), (0, .nameAndType 5 6), (0, u "java/lang/Object"), (0, u "<init>"), (0, u "()V"), (0, .class_ 8), (0, u "java/lang/Record")] 13

def k2c0 : Code := { maxStack := 1, maxLocals := 1, code := jdk_30_method_1_code, exceptionTable := #[], attributes := #[] }
def k2m0 : Method := { name := "<init>", desc := "()V", sig := { parameters := [], returnType := none }, accessFlags := 4, code := some k2c0 }
/-- java/lang/Record -/
def k2 : Class := { plain "java/lang/Record" (some 0) with
  accessFlags := 1057
  interfaces := #[]
  cf := some (fileOf pool2 7 #[] #[{ accessFlags := 4, nameIndex := 5, descriptorIndex := 6, attributes := #[] }] 1057 2 #[] #[])
  fields := #[]
  methods := #[k2m0]
  instanceTypes := #[]
  staticTypes := #[]
  resolved := Array.replicate 22 none
  statics := none }

def pool3 : Array CpInfo := pool [(1, .methodref 2 3), (0, .class_ 4), (0, .nameAndType 5 6), (0, u "java/lang/Record"), (0, u "<init>"), (0, u "()V"), (0, .fieldref 8 9), (0, .class_ 10), (0, .nameAndType 11 12), (0, u "com/example/hydromeme/hydromeme/NetworkFile$PipeLine"), (0, u "line"), (0, u "I"), (0, .fieldref 8 14), (0, .nameAndType 15 12), (0, u "diameterStart"), (0, .fieldref 8 17), (0, .nameAndType 18 12), (0, u "diameterEnd"), (0, .fieldref 8 20), (0, .nameAndType 21 12), (0, u "statusStart"), (0, .fieldref 8 23), (0, .nameAndType 24 12), (0, u "statusEnd"), (12, u "(IIIII)V"), (3, u "hasStatus"), (0, u "()Z"), (7, .class_ 51), (0, u "com/example/hydromeme/hydromeme/NetworkFile")] 23

def k3c0 : Code := { maxStack := 2, maxLocals := 6, code := prog_38_method_1_code, exceptionTable := #[], attributes := #[] }
def k3m0 : Method := { name := "<init>", desc := "(IIIII)V", sig := { parameters := [.int, .int, .int, .int, .int], returnType := none }, accessFlags := 0, code := some k3c0 }
def k3c1 : Code := { maxStack := 2, maxLocals := 1, code := prog_38_method_2_code, exceptionTable := #[], attributes := #[] }
def k3m1 : Method := { name := "hasStatus", desc := "()Z", sig := { parameters := [], returnType := some .boolean }, accessFlags := 0, code := some k3c1 }
/-- com/example/hydromeme/hydromeme/NetworkFile$PipeLine -/
def k3 : Class := { plain "com/example/hydromeme/hydromeme/NetworkFile$PipeLine" (some 2) with
  accessFlags := 48
  interfaces := #[]
  cf := some (fileOf pool3 8 #[.nestHost 50] #[{ accessFlags := 0, nameIndex := 5, descriptorIndex := 37, attributes := #[] }, { accessFlags := 0, nameIndex := 41, descriptorIndex := 42, attributes := #[] }] 48 2 #[] #[{ accessFlags := 18, nameIndex := 11, descriptorIndex := 12, attributes := #[] }, { accessFlags := 18, nameIndex := 15, descriptorIndex := 12, attributes := #[] }, { accessFlags := 18, nameIndex := 18, descriptorIndex := 12, attributes := #[] }, { accessFlags := 18, nameIndex := 21, descriptorIndex := 12, attributes := #[] }, { accessFlags := 18, nameIndex := 24, descriptorIndex := 12, attributes := #[] }])
  fields := #[{ name := "line", type := .int, accessFlags := 18, slot := 0, constantValue := 0 }, { name := "diameterStart", type := .int, accessFlags := 18, slot := 1, constantValue := 0 }, { name := "diameterEnd", type := .int, accessFlags := 18, slot := 2, constantValue := 0 }, { name := "statusStart", type := .int, accessFlags := 18, slot := 3, constantValue := 0 }, { name := "statusEnd", type := .int, accessFlags := 18, slot := 4, constantValue := 0 }]
  methods := #[k3m0, k3m1]
  instanceTypes := #[.int, .int, .int, .int, .int]
  staticTypes := #[]
  resolved := Array.replicate 75 none
  statics := none }

def pool4 : Array CpInfo := pool [(1, u "java/lang/Cloneable"), (0, .class_ 1), (0, u "java/lang/Object"), (0, .class_ 3)] 3

/-- java/lang/Cloneable -/
def k4 : Class := { plain "java/lang/Cloneable" (some 0) with
  accessFlags := 1537
  interfaces := #[]
  cf := some (fileOf pool4 2 #[] #[] 1537 4 #[] #[])
  fields := #[]
  methods := #[]
  instanceTypes := #[]
  staticTypes := #[]
  resolved := Array.replicate 8 none
  statics := none }

def pool5 : Array CpInfo := pool [(1, u "java/io/Serializable"), (0, .class_ 1), (0, u "java/lang/Object"), (0, .class_ 3)] 3

/-- java/io/Serializable -/
def k5 : Class := { plain "java/io/Serializable" (some 0) with
  accessFlags := 1537
  interfaces := #[]
  cf := some (fileOf pool5 2 #[] #[] 1537 4 #[] #[])
  fields := #[]
  methods := #[]
  instanceTypes := #[]
  staticTypes := #[]
  resolved := Array.replicate 8 none
  statics := none }

/-- the primitive byte -/
def k6 : Class := { plain "byte" none with kind := .primitive 'B', accessFlags := 0x411 }
/-- [B -/
def k7 : Class := { plain "[B" (some 0) with kind := .array 6 .byte, interfaces := #[4, 5], accessFlags := 1041 }

/-- the primitive int -/
def k8 : Class := { plain "int" none with kind := .primitive 'I', accessFlags := 0x411 }
/-- [I -/
def k9 : Class := { plain "[I" (some 0) with kind := .array 8 .int, interfaces := #[4, 5], accessFlags := 1041 }

def heap : Heap := #[]
def classes : Array Class := #[k0, k1, k2, k3, k4, k5, k6, k7, k8, k9]
def interned : List (Array UInt16 × Addr) := []
def slotsUsed : Nat := 0
def theMethod : MethodId := ⟨1, 1⟩
def args0 : Array Value := #[.int 5, .int 5, .int 5, .int 5, .int 5]
def aboutOver (below : List Frame) : State where
  vm := { classes := classes, interned := interned.toArray }
  heap := heap
  slotsUsed := slotsUsed
  threads := #[{ frames := .invoking theMethod args0 :: below }]
def below0 : List Frame := [.native { method := ⟨0, 0⟩, args := #[] }]
def about1 : State := aboutOver below0
def p0 : Program := .bare "" "" ""
def e0 : Env := launch0.env 0 0 0
theorem w_frames : about1.frames = Frame.invoking theMethod args0 :: below0 := rfl
set_option maxRecDepth 65536 in
theorem w_args : argsFit about1.vm theMethod args0 = true := by decide +kernel
set_option maxRecDepth 65536 in
theorem w_heap : heapFits about1 = true := by decide +kernel
set_option maxRecDepth 65536 in
theorem w_runnable : about1.curStatus? = some .runnable := by decide +kernel
set_option maxRecDepth 65536 in
theorem w_alone : about1.alone = true := by decide +kernel
set_option maxRecDepth 65536 in
theorem w_named : about1.methodNamed? x = some theMethod := by decide +kernel
set_option maxRecDepth 65536 in
theorem w_hears : about1.hears theMethod below0 = true := by decide +kernel
set_option maxRecDepth 65536 in
theorem w_ripe : about1.ripe theMethod args0 below0 = true := by decide +kernel
theorem w_running : about1.status = .running := rfl
set_option maxRecDepth 65536 in
theorem w_room : about1.hasRoom e0.platform room_1 = true :=
  launch0.hasRoom_least _ room_1 (by decide +kernel) (by decide +kernel) (by decide +kernel) (by decide +kernel) (by decide +kernel) (by decide +kernel)
theorem allAtoms_all (ts : List Jvm.Cond) (a : Array Jvm.Value) (st : Jvm.State) : (allAtoms ts).before a st = ts.all (fun c => c.before a st) := by
  induction ts with
  | nil => rfl
  | cons c t ih =>
    show (Jvm.Cond.and c (allAtoms t)).before a st = _
    rw [Jvm.Cond.before_and, ih, List.all_cons]
def words1 : List Jvm.Cond := Jvm.Cond.code x code maxLocals ret :: tables_1
/-- a 'code' word, met by the world's own term for the bytes: nothing is compared byte by byte -/
theorem code_word {y : MethodName} {bytes : ByteArray} {mx : Nat} {rt : Option FieldType} {a : Array Value} {s : State} {m : MethodId} {meth : Method} {c : Code} (h1 : s.methodNamed? y = some m) (h2 : s.vm.method? m = some meth) (h3 : meth.code = some c) (h4 : c.code = bytes)
    (h5 : (c.maxLocals == mx && c.exceptionTable.isEmpty && decide (c.maxStack ≤ mostOperands) && decide (meth.sig.returnType = rt) && !meth.locks && decide (parseMethodDescriptor y.desc = some meth.sig)) = true) : (Jvm.Cond.code y bytes mx rt).before a s = true := by
  simp only [Bool.and_eq_true, beq_iff_eq, Bool.not_eq_true', decide_eq_true_eq] at h5
  obtain ⟨⟨⟨⟨⟨g1, g2⟩, g3⟩, g4⟩, g5⟩, g6⟩ := h5
  simp [Cond.before, Cond.holds, Cond.value, h1, h2, h3, h4, g1, g2, g3, g4, g5, g6]
def isCode : Jvm.Cond → Bool
  | .code _ _ _ _ => true
  | _ => false
theorem all_split {L : List Jvm.Cond} {P : Jvm.Cond → Bool} (h1 : L.all (fun c => isCode c || P c) = true) (h2 : ∀ c ∈ L.filter isCode, P c = true) : L.all P = true := by
  refine List.all_eq_true.mpr fun c hc => ?_
  have h := List.all_eq_true.mp h1 c hc
  rcases Bool.eq_false_or_eq_true (isCode c) with hi | hi
  · exact h2 c (List.mem_filter.mpr ⟨hc, hi⟩)
  · simpa [hi] using h
set_option maxRecDepth 65536 in
theorem w_c0 : (Jvm.Cond.code x code maxLocals ret).before args0 about1 = true := code_word (m := ⟨1, 1⟩) (meth := k1m1) (c := k1c1) (by decide +kernel) rfl rfl rfl (by decide +kernel)
set_option maxRecDepth 65536 in
theorem w_c1 : (Jvm.Cond.code ({ cls := "com/example/hydromeme/hydromeme/NetworkFile$PipeLine", name := "<init>", desc := "(IIIII)V" } : Jvm.MethodName) prog_38_method_1_code (6 : Nat) (Option.none : Option Jvm.ClassFile.FieldType)).before args0 about1 = true := code_word (m := ⟨3, 0⟩) (meth := k3m0) (c := k3c0) (by decide +kernel) rfl rfl rfl (by decide +kernel)
set_option maxRecDepth 65536 in
theorem w_c2 : (Jvm.Cond.code ({ cls := "java/lang/Record", name := "<init>", desc := "()V" } : Jvm.MethodName) jdk_30_method_1_code (1 : Nat) (Option.none : Option Jvm.ClassFile.FieldType)).before args0 about1 = true := code_word (m := ⟨2, 0⟩) (meth := k2m0) (c := k2c0) (by decide +kernel) rfl rfl rfl (by decide +kernel)
set_option maxRecDepth 65536 in
theorem w_c3 : (Jvm.Cond.code ({ cls := "java/lang/Object", name := "<init>", desc := "()V" } : Jvm.MethodName) object_method_1_code (1 : Nat) (Option.none : Option Jvm.ClassFile.FieldType)).before args0 about1 = true := code_word (m := ⟨0, 0⟩) (meth := k0m0) (c := k0c0) (by decide +kernel) rfl rfl rfl (by decide +kernel)
set_option maxRecDepth 65536 in
theorem w_c4 : (Jvm.Cond.code ({ cls := "com/example/hydromeme/hydromeme/NetworkFile$PipeLine", name := "hasStatus", desc := "()Z" } : Jvm.MethodName) prog_38_method_2_code (1 : Nat) (Option.some Jvm.ClassFile.FieldType.boolean)).before args0 about1 = true := code_word (m := ⟨3, 1⟩) (meth := k3m1) (c := k3c1) (by decide +kernel) rfl rfl rfl (by decide +kernel)
def codes1 : List Jvm.Cond := [Jvm.Cond.code x code maxLocals ret, Jvm.Cond.code ({ cls := "com/example/hydromeme/hydromeme/NetworkFile$PipeLine", name := "<init>", desc := "(IIIII)V" } : Jvm.MethodName) prog_38_method_1_code (6 : Nat) (Option.none : Option Jvm.ClassFile.FieldType), Jvm.Cond.code ({ cls := "java/lang/Record", name := "<init>", desc := "()V" } : Jvm.MethodName) jdk_30_method_1_code (1 : Nat) (Option.none : Option Jvm.ClassFile.FieldType), Jvm.Cond.code ({ cls := "java/lang/Object", name := "<init>", desc := "()V" } : Jvm.MethodName) object_method_1_code (1 : Nat) (Option.none : Option Jvm.ClassFile.FieldType), Jvm.Cond.code ({ cls := "com/example/hydromeme/hydromeme/NetworkFile$PipeLine", name := "hasStatus", desc := "()Z" } : Jvm.MethodName) prog_38_method_2_code (1 : Nat) (Option.some Jvm.ClassFile.FieldType.boolean)]
set_option maxRecDepth 65536 in
theorem codes_eq : words1.filter isCode = codes1 := rfl
theorem w_codes : ∀ c ∈ words1.filter isCode, c.before args0 about1 = true := by
  rw [codes_eq]
  intro c hc
  simp only [codes1, List.mem_cons, List.not_mem_nil, or_false] at hc
  rcases hc with rfl | rfl | rfl | rfl | rfl
  · exact w_c0
  · exact w_c1
  · exact w_c2
  · exact w_c3
  · exact w_c4
set_option maxRecDepth 65536 in
theorem w_t1 : (words1.take 24).all (fun c => isCode c || c.before args0 about1) = true := by decide +kernel
set_option maxRecDepth 65536 in
theorem w_t2 : (words1.drop 24).all (fun c => isCode c || c.before args0 about1) = true := by decide +kernel
theorem w_tables : (allAtoms (Jvm.Cond.code x code maxLocals ret :: tables_1)).before args0 about1 = true := by
  rw [allAtoms_all]
  show words1.all (fun c => c.before args0 about1) = true
  refine all_split ?_ w_codes
  rw [← List.take_append_drop 24 words1, List.all_append, w_t1, w_t2]
  rfl
set_option maxRecDepth 65536 in
theorem w_case : (Jvm.Cond.and given_1 narrow_1).before args0 about1 = true := by decide +kernel
theorem w_applies : (headSpec (Jvm.Cond.code x code maxLocals ret :: tables_1) room_1).applies x e0.platform about1 = true :=
  (Spec.applies_iff w_frames).mpr ⟨w_running, w_runnable, w_alone, w_named, w_hears, w_ripe, w_room, w_tables⟩
theorem atStart : AtStart classFile x code maxLocals ret World_1 tables_1 room_1 Calls_1 rest_1 Pre_1 launch0 p0 e0 about1 theMethod args0 below0 :=
  ⟨lists_1, trivial, launch0.admits_env _ _ _, launch0.least_env, fairChoices_fair.cas, fairChoices_fair.clock, w_frames, w_args, w_heap, w_applies, trivial, trivial, w_case⟩
end start1
theorem witness_1 : WitnessClaimed_1 := ⟨start1.p0, start1.e0, start1.about1, start1.theMethod, start1.args0, start1.below0, start1.atStart⟩
end Jvm.Pilot.@@N@@
