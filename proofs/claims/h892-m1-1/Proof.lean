import JvmDerived
import JvmDerived.Pilot.@@N@@Statement
import JvmDerived.Pilot.@@N@@Code
set_option linter.unusedVariables false
set_option linter.unusedSimpArgs false
namespace Jvm.Pilot.@@N@@
open Jvm Jvm.ClassFile Sem Op Lib Jvm.Free Jvm.Stand Jvm.LawKit Jvm.RoadKit Bundle Jvm.Pilot.@@N@@.Jvm.D
section Own
variable {p : Program} {l : Launch} {e : Env} {R : Room} {s : State} {m : MethodId} {args : Array Value} {below : List Frame} {meth : Method} {c : Code} {T : State} {locs : List Loc} {cells slots : Nat} {Z : State} {a0 : Array Value} {h : Heap} {Φ : Outcome → State → Prop}
/-- what is left of a walk: from S the invocation ends as Φ says -/
def OGo (tb : Tables) (e : Env) (below : List Frame) (Φ : Outcome → State → Prop) (S : State) : Prop := ∃ s₂ o, Steps tb e below S s₂ ∧ s₂.status = .running ∧ Ended s₂ below o ∧ Φ o s₂
theorem OGo.st {tb : Tables} {S S' : State} (h : ∀ t, Steps tb e below S' t → Steps tb e below S t) (g : OGo tb e below Φ S') : OGo tb e below Φ S := by
  obtain ⟨s₂, o, h1, r⟩ := g
  exact ⟨s₂, o, h _ h1, r⟩
theorem OGo.fin (X : Stand p l e R s m args below meth c T locs cells slots) (hlk : meth.locks = false) {v : Option Value} (hv : meth.sig.returnType = none → v = none) {g : JFrame} {k n : Nat} (hk : cells ≤ k) (hn : slots ≤ n)
    (st : ∀ fs, (∀ (f : JFrame) (acts : List Action), f.method = m → f.locked = none → f.entered = [] → (doReturn e (T.setTop f) acts v).1 = T.setFrames fs) → Steps p.tables e below (T.setTop g) (T.setFrames fs))
    (hq : ∀ U, U.heap = T.heap → FrameEnd s (.returned v) U locs k n → Φ (.returned v) U) : OGo p.tables e below Φ (T.setTop g) := by
  obtain ⟨fs, hr, hrun, hended, hW, hsame⟩ := X.leave (v := v) hv hlk
  exact ⟨_, _, st fs hr, hrun, hended, hq _ rfl ⟨⟨_, rfl⟩, hW, hsame.mono hk hn⟩⟩
/-- a contract: what every body's theorem says -/
abbrev OCon (l : Launch) (Z : State) (y : MethodName) (bytes : ByteArray) (maxL : Nat) (ret : Option FieldType) (ws : List Jvm.Cond) (rm : Room) (as' : Array Value) (h0 : Heap) (Q : Option Value → Heap → List Loc → Prop) : Prop :=
  MetFree l y (head1 (Jvm.Cond.code y bytes maxL ret :: ws) rm) (fun a U => a = as' ∧ Z.Warmed39 U.vm ∧ U.heap = h0) (fun _ _ _ _ _ => True) (fun _ U o U' => ∃ v L, o = .returned v ∧ Q v U'.heap L ∧ FrameEnd U o U' L rm.cells rm.slots)
theorem OCon.of {y : MethodName} {bytes : ByteArray} {maxL : Nat} {ret : Option FieldType} {ws : List Jvm.Cond} {rm : Room} {as' : Array Value} {h0 : Heap} {Q : Option Value → Heap → List Loc → Prop} (hpl : plainFor y = true)
    (H : ∀ (p : Program) (e : Env) (s : State) (m : MethodId) (below : List Frame) (meth : Method) (c : Code) (s₁ : State) (Φ : Outcome → State → Prop), Stand p l e rm s m as' below meth c s₁ [] 0 0 → p.tables.exec = Jvm.exec → c.code = bytes → c.maxLocals = maxL → s.vm.findClass y.cls = some m.cls → meth.name = y.name → meth.sig.returnType = ret → meth.locks = false → Z.Warmed39 s.vm → s₁.heap = h0 →
      (∀ v L U, Q v U.heap L → FrameEnd s (.returned v) U L rm.cells rm.slots → Φ (.returned v) U) → OGo p.tables e below Φ (s₁.setTop (entryFrame m as' maxL))) :
    OCon l Z y bytes maxL ret ws rm as' h0 Q := by
  refine MetFree.of_bodySF hpl hisR ?_
  intro p e s m args below meth c s₁ Bd hml0 hP hK
  obtain ⟨rfl, hZ, hh⟩ := hP
  have e0 : s₁.heap = h0 := by rw [← hh, Bd.state]; rfl
  exact H p e s m below meth c s₁ _ (Stand.of_body Bd) Bd.exec Bd.bytes hml0 (findClass_of_methodNamed Bd.named) (name_of_methodNamed Bd.named Bd.method).1 Bd.returns Bd.notSynchronized hZ e0 (fun v L U hq hf => ⟨v, L, rfl, hq, hf⟩)
theorem own_callSt (X : Stand p l e R s m args below meth c T locs cells slots) (hx : p.tables.exec = Jvm.exec) (hZ : Z.Warmed39 s.vm) {own : String} {index : Nat} {y : MethodName} {bytes : ByteArray} {maxL : Nat} {ret : Option FieldType} {rm : Room} {as' : Array Value} {Q : Option Value → Heap → List Loc → Prop}
    (hown : s.vm.findClass own = some m.cls) (w1 : (Jvm.Cond.methodLink own index y).before a0 Z = true) (w2 : (Jvm.Cond.static y).before a0 Z = true) (w3 : (Jvm.Cond.initialized y.cls).before a0 Z = true) (w4 : (Jvm.Cond.code y bytes maxL ret).before a0 Z = true) (hy : y.cls ≠ "java/lang/invoke/MethodHandle" ∧ y.cls ≠ "java/lang/invoke/VarHandle")
    (hM : OCon l Z y bytes maxL ret [] rm as' h Q) (eT : T.heap = h) {W : Nat} (hf : rm.frames + 1 ≤ R.frames) (hl : W + (maxL + 11) + rm.locals ≤ R.locals) (hcl : cells + rm.cells ≤ R.cells) (hsl : slots + rm.slots ≤ R.slots)
    {pc : Nat} {ls : Array Slot} {stk : List Value} (hsize : ls.size = c.maxLocals) {argsL rest : List Value} (hlen : ∀ sig, parseMethodDescriptor y.desc = some sig → argsL.length = sig.parameters.length) (has : argsL.toArray = as') (hstack : stk = argsL.reverse ++ rest) (hW : (rest.map fun v => v.category).sum ≤ W)
    (hd : decode c.code pc = .ok (.invokestatic index, 3)) :
    ∃ v T' L, Stand p l e R s m args below meth c T' (locs ++ L) (cells + rm.cells) (slots + rm.slots) ∧ Q v T'.heap L ∧ ∀ target, Steps p.tables e below (T'.setTop (mkF m (pc + 3) ls (v.toList ++ rest))) target → Steps p.tables e below (T.setTop (mkF m pc ls stk)) target := by
  subst has
  obtain ⟨v, vm₁, ⟨T', L', k', n'⟩, -, X', ⟨L, hQ, l1, y1, z1⟩, st⟩ := Jvm.LawKit.callS X hx (y := y) hown (mvT hZ w1) (mvT hZ w2) (mvT hZ w3) (mvT hZ w4) hy (backOf (W := W) hM hZ w4 w3 hf hl) (g := mkF m pc ls stk) rfl hsize (argsL := argsL) (rest := rest) hlen hstack (by simpa using hW) hd (fun _ _ => ⟨rfl, eT, hcl, hsl⟩)
  dsimp only [Pt.U, Pt.locs, Pt.cells, Pt.slots] at X' l1 y1 z1 st hQ
  subst l1 y1 z1
  exact ⟨v, T', L, X', hQ, st⟩
theorem own_callSp (X : Stand p l e R s m args below meth c T locs cells slots) (hx : p.tables.exec = Jvm.exec) (hZ : Z.Warmed39 s.vm) {own : String} {index : Nat} {y : MethodName} {bytes : ByteArray} {maxL : Nat} {rm : Room} {as' : Array Value} {Q : Option Value → Heap → List Loc → Prop}
    (hy1 : y.name = "<init>") (hown : s.vm.findClass own = some m.cls) (w1 : (Jvm.Cond.methodLink own index y).before a0 Z = true) (w2 : (Jvm.Cond.instanceMethod y).before a0 Z = true) (w3 : (Jvm.Cond.initialized y.cls).before a0 Z = true) (w4 : (Jvm.Cond.code y bytes maxL none).before a0 Z = true) (hy : y.cls ≠ "java/lang/invoke/MethodHandle" ∧ y.cls ≠ "java/lang/invoke/VarHandle")
    (hM : OCon l Z y bytes maxL none [] rm as' h Q) (eT : T.heap = h) {W : Nat} (hf : rm.frames + 1 ≤ R.frames) (hl : W + (maxL + 11) + rm.locals ≤ R.locals) (hcl : cells + rm.cells ≤ R.cells) (hsl : slots + rm.slots ≤ R.slots)
    {pc : Nat} {ls : Array Slot} {stk : List Value} (hsize : ls.size = c.maxLocals) {a : Addr} {argsL rest : List Value} (hlen : ∀ sig, parseMethodDescriptor y.desc = some sig → argsL.length = sig.parameters.length) (has : (.ref a :: argsL).toArray = as') (hstack : stk = argsL.reverse ++ .ref a :: rest) (hW : (rest.map fun v => v.category).sum ≤ W)
    (hd : decode c.code pc = .ok (.invokespecial index, 3)) :
    ∃ v T' L, Stand p l e R s m args below meth c T' (locs ++ L) (cells + rm.cells) (slots + rm.slots) ∧ Q v T'.heap L ∧ ∀ target, Steps p.tables e below (T'.setTop (mkF m (pc + 3) ls (v.toList ++ rest))) target → Steps p.tables e below (T.setTop (mkF m pc ls stk)) target := by
  subst has
  obtain ⟨v, vm₁, ⟨T', L', k', n'⟩, -, X', ⟨L, hQ, l1, y1, z1⟩, st⟩ := X.specialBack hx (y := y) hy1 hown (mvT hZ w1) (mvT hZ w2) (mvT hZ w4) hy (backOf (W := W) hM hZ w4 w3 hf hl) (g := mkF m pc ls stk) rfl hsize (Steps.refl _) (a := a) (argsL := argsL) (rest := rest) hlen hstack (by simpa using hW) hd (fun _ _ => ⟨rfl, eT, hcl, hsl⟩)
  dsimp only [Pt.U, Pt.locs, Pt.cells, Pt.slots] at X' l1 y1 z1 st hQ
  subst l1 y1 z1
  exact ⟨v, T', L, X', hQ, fun t k => st.trans k⟩
theorem own_callVi (X : Stand p l e R s m args below meth c T locs cells slots) (hx : p.tables.exec = Jvm.exec) (hZ : Z.Warmed39 s.vm) {own C : String} {index : Nat} {y z : MethodName} {bytes : ByteArray} {maxL : Nat} {ret : Option FieldType} {rm : Room} {as' : Array Value} {Q : Option Value → Heap → List Loc → Prop}
    (hown : s.vm.findClass own = some m.cls) (w1 : (Jvm.Cond.methodLink own index y).before a0 Z = true) (w2 : (Jvm.Cond.declares y).before a0 Z = true) (nf : NotFace s y) (w3 : (Jvm.Cond.selects C y z).before a0 Z = true) (w4 : (Jvm.Cond.instanceMethod z).before a0 Z = true) (w5 : (Jvm.Cond.initialized z.cls).before a0 Z = true) (w6 : (Jvm.Cond.code z bytes maxL ret).before a0 Z = true) (hy : y.cls ≠ "java/lang/invoke/MethodHandle" ∧ y.cls ≠ "java/lang/invoke/VarHandle")
    (hM : OCon l Z z bytes maxL ret [] rm as' h Q) (eT : T.heap = h) {W : Nat} (hf : rm.frames + 1 ≤ R.frames) (hl : W + (maxL + 11) + rm.locals ≤ R.locals) (hcl : cells + rm.cells ≤ R.cells) (hsl : slots + rm.slots ≤ R.slots) {a : Addr} (E : Exa Z h a C)
    {pc : Nat} {ls : Array Slot} {stk : List Value} (hsize : ls.size = c.maxLocals) {argsL rest : List Value} (hlen : ∀ sig, parseMethodDescriptor y.desc = some sig → argsL.length = sig.parameters.length) (has : (.ref a :: argsL).toArray = as') (hstack : stk = argsL.reverse ++ .ref a :: rest) (hW : (rest.map fun v => v.category).sum ≤ W)
    (hd : decode c.code pc = .ok (.invokevirtual index, 3)) :
    ∃ v T' L, Stand p l e R s m args below meth c T' (locs ++ L) (cells + rm.cells) (slots + rm.slots) ∧ Q v T'.heap L ∧ ∀ target, Steps p.tables e below (T'.setTop (mkF m (pc + 3) ls (v.toList ++ rest))) target → Steps p.tables e below (T.setTop (mkF m pc ls stk)) target := by
  subst has
  obtain ⟨cq, kq, qa, qb, qc⟩ := isOf hZ eT E
  obtain ⟨v, vm₁, ⟨T', L', k', n'⟩, -, X', ⟨L, hQ, l1, y1, z1⟩, st⟩ := X.virtualBack hx (y := y) (z := z) hown (mvT hZ w1) (mvT hZ w2) nf (mvT hZ w3) (mvT hZ w4) hy (backOf (W := W) hM hZ w6 w5 hf hl) qa qc (g := mkF m pc ls stk) rfl hsize (Steps.refl _) (argsL := argsL) (rest := rest) hlen hstack (by simpa using hW) hd (fun _ _ => ⟨rfl, eT, hcl, hsl⟩)
  dsimp only [Pt.U, Pt.locs, Pt.cells, Pt.slots] at X' l1 y1 z1 st hQ
  subst l1 y1 z1
  exact ⟨v, T', L, X', hQ, fun t k => st.trans k⟩
theorem own_lremM {g : JFrame} {target : State} (X : Stand p l e R s m args below meth c T locs cells slots) (hx : p.tables.exec = Jvm.exec) (hg : g.method = m) {x y : Int64} {rest : List Value} (hd : decode c.code g.pc = .ok (.lrem, 1)) (hs : g.stack = .long y :: .long x :: rest) (hy : y ≠ 0)
    (hr : Steps p.tables e below (T.setTop { g with pc := g.pc + 1, stack := .long (x % y) :: rest }) target) : Steps p.tables e below (T.setTop g) target :=
  XT.lrem X.here hx hg hd hs hy (by rw [lrem_mod]; exact hr)
theorem own_nz {x : Int32} (q : x = 0 ∨ x = 1) : narrow .boolean (.int x) = .int x := by rcases q with rfl | rfl <;> rfl
theorem own_fz {x : Int32} (q : x = 0 ∨ x = 1) : fits .boolean (.int x) = true := by rcases q with rfl | rfl <;> rfl
theorem own_irr (x : Int32) : ¬ x < x := fun q => absurd (Int32.lt_iff_toInt_lt.mp q) (Int.lt_irrefl _)
theorem own_irrL (x : Int64) : ¬ x < x := fun q => absurd (Int64.lt_iff_toInt_lt.mp q) (Int.lt_irrefl _)
/-- a small int is one of the first n -/
theorem own_small {n : Nat} (hn : n < 2 ^ 31) (x : Int32) (h0 : ¬ x < 0) (h1 : x.toInt < n) : ∃ k : Fin n, x = Int32.ofInt k.val := by
  have h2 : 0 ≤ x.toInt := by
    rcases Int.lt_or_le x.toInt 0 with q | q
    · exact absurd (Int32.lt_iff_toInt_lt.mpr q) h0
    · exact q
  refine ⟨⟨x.toInt.toNat, by omega⟩, ?_⟩
  rw [Int.toNat_of_nonneg h2, Int32.ofInt_toInt]
end Own
theorem ow0 {Z : State} {a0 : Array Value} (hw : ∀ d ∈ tables_1, d.before a0 Z = true) : (Jvm.Cond.methodLink "com/example/bowerbird/bowerbird/model/IntRangeSizePinLaw" (7 : Nat) ({ cls := "java/lang/Math", name := "min", desc := "(II)I" } : Jvm.MethodName)).before a0 Z = true := hw _ (List.mem_of_getElem? (i := 0) rfl)
theorem ow1 {Z : State} {a0 : Array Value} (hw : ∀ d ∈ tables_1, d.before a0 Z = true) : (Jvm.Cond.static ({ cls := "java/lang/Math", name := "min", desc := "(II)I" } : Jvm.MethodName)).before a0 Z = true := hw _ (List.mem_of_getElem? (i := 1) rfl)
theorem ow2 {Z : State} {a0 : Array Value} (hw : ∀ d ∈ tables_1, d.before a0 Z = true) : (Jvm.Cond.initialized "java/lang/Math").before a0 Z = true := hw _ (List.mem_of_getElem? (i := 2) rfl)
theorem ow3 {Z : State} {a0 : Array Value} (hw : ∀ d ∈ tables_1, d.before a0 Z = true) : (Jvm.Cond.code ({ cls := "java/lang/Math", name := "min", desc := "(II)I" } : Jvm.MethodName) jdk_29_method_69_code (2 : Nat) (Option.some Jvm.ClassFile.FieldType.int)).before a0 Z = true := hw _ (List.mem_of_getElem? (i := 3) rfl)
theorem ow4 {Z : State} {a0 : Array Value} (hw : ∀ d ∈ tables_1, d.before a0 Z = true) : (Jvm.Cond.methodLink "com/example/bowerbird/bowerbird/model/IntRangeSizePinLaw" (13 : Nat) ({ cls := "java/lang/Math", name := "max", desc := "(II)I" } : Jvm.MethodName)).before a0 Z = true := hw _ (List.mem_of_getElem? (i := 4) rfl)
theorem ow5 {Z : State} {a0 : Array Value} (hw : ∀ d ∈ tables_1, d.before a0 Z = true) : (Jvm.Cond.static ({ cls := "java/lang/Math", name := "max", desc := "(II)I" } : Jvm.MethodName)).before a0 Z = true := hw _ (List.mem_of_getElem? (i := 5) rfl)
theorem ow6 {Z : State} {a0 : Array Value} (hw : ∀ d ∈ tables_1, d.before a0 Z = true) : (Jvm.Cond.code ({ cls := "java/lang/Math", name := "max", desc := "(II)I" } : Jvm.MethodName) jdk_29_method_65_code (2 : Nat) (Option.some Jvm.ClassFile.FieldType.int)).before a0 Z = true := hw _ (List.mem_of_getElem? (i := 6) rfl)
theorem ow7 {Z : State} {a0 : Array Value} (hw : ∀ d ∈ tables_1, d.before a0 Z = true) : (Jvm.Cond.classLink "com/example/bowerbird/bowerbird/model/IntRangeSizePinLaw" (16 : Nat) "com/example/bowerbird/bowerbird/model/IntRange").before a0 Z = true := hw _ (List.mem_of_getElem? (i := 7) rfl)
theorem ow8 {Z : State} {a0 : Array Value} (hw : ∀ d ∈ tables_1, d.before a0 Z = true) : (Jvm.Cond.instantiable "com/example/bowerbird/bowerbird/model/IntRange" (2 : Nat)).before a0 Z = true := hw _ (List.mem_of_getElem? (i := 8) rfl)
theorem ow9 {Z : State} {a0 : Array Value} (hw : ∀ d ∈ tables_1, d.before a0 Z = true) : (Jvm.Cond.initialized "com/example/bowerbird/bowerbird/model/IntRange").before a0 Z = true := hw _ (List.mem_of_getElem? (i := 9) rfl)
theorem ow10 {Z : State} {a0 : Array Value} (hw : ∀ d ∈ tables_1, d.before a0 Z = true) : (Jvm.Cond.methodLink "com/example/bowerbird/bowerbird/model/IntRangeSizePinLaw" (18 : Nat) ({ cls := "com/example/bowerbird/bowerbird/model/IntRange", name := "<init>", desc := "(II)V" } : Jvm.MethodName)).before a0 Z = true := hw _ (List.mem_of_getElem? (i := 10) rfl)
theorem ow11 {Z : State} {a0 : Array Value} (hw : ∀ d ∈ tables_1, d.before a0 Z = true) : (Jvm.Cond.instanceMethod ({ cls := "com/example/bowerbird/bowerbird/model/IntRange", name := "<init>", desc := "(II)V" } : Jvm.MethodName)).before a0 Z = true := hw _ (List.mem_of_getElem? (i := 11) rfl)
theorem ow12 {Z : State} {a0 : Array Value} (hw : ∀ d ∈ tables_1, d.before a0 Z = true) : (Jvm.Cond.code ({ cls := "com/example/bowerbird/bowerbird/model/IntRange", name := "<init>", desc := "(II)V" } : Jvm.MethodName) prog_55_method_1_code (3 : Nat) (Option.none : Option Jvm.ClassFile.FieldType)).before a0 Z = true := hw _ (List.mem_of_getElem? (i := 12) rfl)
theorem ow13 {Z : State} {a0 : Array Value} (hw : ∀ d ∈ tables_1, d.before a0 Z = true) : (Jvm.Cond.methodLink "com/example/bowerbird/bowerbird/model/IntRange" (1 : Nat) ({ cls := "java/lang/Record", name := "<init>", desc := "()V" } : Jvm.MethodName)).before a0 Z = true := hw _ (List.mem_of_getElem? (i := 13) rfl)
theorem ow14 {Z : State} {a0 : Array Value} (hw : ∀ d ∈ tables_1, d.before a0 Z = true) : (Jvm.Cond.instanceMethod ({ cls := "java/lang/Record", name := "<init>", desc := "()V" } : Jvm.MethodName)).before a0 Z = true := hw _ (List.mem_of_getElem? (i := 14) rfl)
theorem ow16 {Z : State} {a0 : Array Value} (hw : ∀ d ∈ tables_1, d.before a0 Z = true) : (Jvm.Cond.initialized "java/lang/Record").before a0 Z = true := hw _ (List.mem_of_getElem? (i := 16) rfl)
theorem ow17 {Z : State} {a0 : Array Value} (hw : ∀ d ∈ tables_1, d.before a0 Z = true) : (Jvm.Cond.code ({ cls := "java/lang/Record", name := "<init>", desc := "()V" } : Jvm.MethodName) jdk_30_method_1_code (1 : Nat) (Option.none : Option Jvm.ClassFile.FieldType)).before a0 Z = true := hw _ (List.mem_of_getElem? (i := 17) rfl)
theorem ow18 {Z : State} {a0 : Array Value} (hw : ∀ d ∈ tables_1, d.before a0 Z = true) : (Jvm.Cond.methodLink "java/lang/Record" (1 : Nat) ({ cls := "java/lang/Object", name := "<init>", desc := "()V" } : Jvm.MethodName)).before a0 Z = true := hw _ (List.mem_of_getElem? (i := 18) rfl)
theorem ow19 {Z : State} {a0 : Array Value} (hw : ∀ d ∈ tables_1, d.before a0 Z = true) : (Jvm.Cond.instanceMethod ({ cls := "java/lang/Object", name := "<init>", desc := "()V" } : Jvm.MethodName)).before a0 Z = true := hw _ (List.mem_of_getElem? (i := 19) rfl)
theorem ow20 {Z : State} {a0 : Array Value} (hw : ∀ d ∈ tables_1, d.before a0 Z = true) : (Jvm.Cond.code ({ cls := "java/lang/Object", name := "<init>", desc := "()V" } : Jvm.MethodName) object_method_1_code (1 : Nat) (Option.none : Option Jvm.ClassFile.FieldType)).before a0 Z = true := hw _ (List.mem_of_getElem? (i := 20) rfl)
theorem ow21 {Z : State} {a0 : Array Value} (hw : ∀ d ∈ tables_1, d.before a0 Z = true) : (Jvm.Cond.fieldLink "com/example/bowerbird/bowerbird/model/IntRange" (7 : Nat) "com/example/bowerbird/bowerbird/model/IntRange" "min" "I").before a0 Z = true := hw _ (List.mem_of_getElem? (i := 21) rfl)
theorem ow22 {Z : State} {a0 : Array Value} (hw : ∀ d ∈ tables_1, d.before a0 Z = true) : (Jvm.Cond.laysFinal "com/example/bowerbird/bowerbird/model/IntRange" "com/example/bowerbird/bowerbird/model/IntRange" "min" "I").before a0 Z = true := hw _ (List.mem_of_getElem? (i := 22) rfl)
theorem ow23 {Z : State} {a0 : Array Value} (hw : ∀ d ∈ tables_1, d.before a0 Z = true) : (Jvm.Cond.fieldLink "com/example/bowerbird/bowerbird/model/IntRange" (13 : Nat) "com/example/bowerbird/bowerbird/model/IntRange" "max" "I").before a0 Z = true := hw _ (List.mem_of_getElem? (i := 23) rfl)
theorem ow24 {Z : State} {a0 : Array Value} (hw : ∀ d ∈ tables_1, d.before a0 Z = true) : (Jvm.Cond.laysFinal "com/example/bowerbird/bowerbird/model/IntRange" "com/example/bowerbird/bowerbird/model/IntRange" "max" "I").before a0 Z = true := hw _ (List.mem_of_getElem? (i := 24) rfl)
theorem ow25 {Z : State} {a0 : Array Value} (hw : ∀ d ∈ tables_1, d.before a0 Z = true) : (Jvm.Cond.methodLink "com/example/bowerbird/bowerbird/model/IntRangeSizePinLaw" (21 : Nat) ({ cls := "com/example/bowerbird/bowerbird/model/IntRange", name := "size", desc := "()J" } : Jvm.MethodName)).before a0 Z = true := hw _ (List.mem_of_getElem? (i := 25) rfl)
theorem ow26 {Z : State} {a0 : Array Value} (hw : ∀ d ∈ tables_1, d.before a0 Z = true) : (Jvm.Cond.declares ({ cls := "com/example/bowerbird/bowerbird/model/IntRange", name := "size", desc := "()J" } : Jvm.MethodName)).before a0 Z = true := hw _ (List.mem_of_getElem? (i := 26) rfl)
theorem ow27 {Z : State} {a0 : Array Value} (hw : ∀ d ∈ tables_1, d.before a0 Z = true) : (Jvm.Cond.instanceMethod ({ cls := "com/example/bowerbird/bowerbird/model/IntRange", name := "size", desc := "()J" } : Jvm.MethodName)).before a0 Z = true := hw _ (List.mem_of_getElem? (i := 27) rfl)
theorem ow28 {Z : State} {a0 : Array Value} (hw : ∀ d ∈ tables_1, d.before a0 Z = true) : (Jvm.Cond.selects "com/example/bowerbird/bowerbird/model/IntRange" ({ cls := "com/example/bowerbird/bowerbird/model/IntRange", name := "size", desc := "()J" } : Jvm.MethodName) ({ cls := "com/example/bowerbird/bowerbird/model/IntRange", name := "size", desc := "()J" } : Jvm.MethodName)).before a0 Z = true := hw _ (List.mem_of_getElem? (i := 28) rfl)
theorem ow29 {Z : State} {a0 : Array Value} (hw : ∀ d ∈ tables_1, d.before a0 Z = true) : (Jvm.Cond.code ({ cls := "com/example/bowerbird/bowerbird/model/IntRange", name := "size", desc := "()J" } : Jvm.MethodName) prog_55_method_3_code (1 : Nat) (Option.some Jvm.ClassFile.FieldType.long)).before a0 Z = true := hw _ (List.mem_of_getElem? (i := 29) rfl)
theorem ow30 {Z : State} {a0 : Array Value} (hw : ∀ d ∈ tables_1, d.before a0 Z = true) : (Jvm.Cond.constantLong "com/example/bowerbird/bowerbird/model/IntRangeSizePinLaw" (25 : Nat) (4294967295 : Int64)).before a0 Z = true := hw _ (List.mem_of_getElem? (i := 30) rfl)
def own_min (x y : Int32) : Int32 := if y < x then y else x
def own_max (x y : Int32) : Int32 := if x < y then y else x
def own_size (lo hi : Int32) : Int64 := hi.toInt64 - lo.toInt64 + (1 : Int64)
theorem own_le (x y : Int32) : (own_min x y).toInt ≤ (own_max x y).toInt := by
  simp only [own_min, own_max]
  split <;> split <;> simp only [Int32.lt_iff_toInt_lt] at * <;> omega
theorem own_sizeI (lo hi : Int32) : (own_size lo hi).toInt = hi.toInt - lo.toInt + 1 := by
  have h1 := rng32 lo; have h2 := rng32 hi
  have a1 : (1 : Int64).toInt = 1 := by decide
  have h3 : (hi.toInt64 - lo.toInt64).toInt = hi.toInt - lo.toInt := by
    rw [XT.sub64 (by simp only [XT.fits64, Int32.toInt_toInt64]; omega)]; simp only [Int32.toInt_toInt64]
  unfold own_size
  rw [XT.add64 (by simp only [XT.fits64, h3, a1]; omega), h3, a1]
theorem own_exp (lo hi : Int32) (h : lo.toInt ≤ hi.toInt) : own_size lo hi = ((hi - lo).toInt64 &&& (4294967295 : Int64)) + (1 : Int64) := by
  apply Int64.toInt_inj.mp
  have h1 := rng32 lo; have h2 := rng32 hi
  have a1 : (1 : Int64).toInt = 1 := by decide
  have m1 := c_maskL (hi - lo).toInt64 4294967295 32 (by decide) (by decide)
  have m2 := c_isub hi lo
  have m3 := c_i2l (hi - lo)
  have m4 := rng32 (hi - lo)
  rw [own_sizeI, XT.add64 (by simp only [XT.fits64, a1]; omega), a1]
  omega
theorem own_split (lo hi k : Int32) (h1 : ¬ k < lo) (h2 : k < hi) : own_size lo k + own_size (k + 1) hi = own_size lo hi := by
  apply Int64.toInt_inj.mp
  rw [Int32.lt_iff_toInt_lt] at h1 h2
  have r1 := rng32 lo; have r2 := rng32 hi; have r3 := rng32 k
  have a1 : (1 : Int32).toInt = 1 := by decide
  have m : (k + 1).toInt = k.toInt + 1 := by rw [XT.add32 (by simp only [XT.fits32, a1]; omega), a1]
  rw [XT.add64 (by simp only [XT.fits64, own_sizeI]; omega)]
  simp only [own_sizeI, m]
  omega

theorem pf_rm1 : plainFor (⟨"java/lang/Math", "min", "(II)I"⟩ : MethodName) = true := by decide +kernel
theorem d_jdk_29_method_69_0 : decode jdk_29_method_69_code 0 = .ok (.iload_n 0, 1) := by decide +kernel
theorem d_jdk_29_method_69_1 : decode jdk_29_method_69_code 1 = .ok (.iload_n 1, 1) := by decide +kernel
theorem d_jdk_29_method_69_2 : decode jdk_29_method_69_code 2 = .ok (.if_icmp .gt 7, 3) := by decide +kernel
theorem d_jdk_29_method_69_9 : decode jdk_29_method_69_code 9 = .ok (.iload_n 1, 1) := by decide +kernel
theorem d_jdk_29_method_69_10 : decode jdk_29_method_69_code 10 = .ok (.ireturn, 1) := by decide +kernel
theorem d_jdk_29_method_69_5 : decode jdk_29_method_69_code 5 = .ok (.iload_n 0, 1) := by decide +kernel
theorem d_jdk_29_method_69_6 : decode jdk_29_method_69_code 6 = .ok (.goto 4, 3) := by decide +kernel
theorem ef_rm1 (m : MethodId) (x0 : Int32) (x1 : Int32) : entryFrame m #[(.int x0), (.int x1)] 2 = mkF m 0 #[.val (.int x0), .val (.int x1)] [] := by first | (simp [entryFrame, mkF, argsToLocals, Value.category]; done) | rfl
def Q_rm1 (Z : State) (x0 : Int32) (x1 : Int32) (h0 : Heap) (n0 : Nat) (v : Option Value) (h : Heap) (L : List Loc) : Prop := v = some (.int (own_min x0 x1)) ∧ Fr n0 L ∧ h = h0
set_option maxRecDepth 65536 in
set_option maxHeartbeats 40000000 in
theorem rm1 (l : Launch) (Z : State) (a0 : Array Value) (hw : ∀ d ∈ tables_1, d.before a0 Z = true) (ws : List Jvm.Cond) (x0 : Int32) (x1 : Int32) (h0 : Heap) (n0 : Nat) (Z0 : n0 ≤ h0.size)  :
    OCon l Z (⟨"java/lang/Math", "min", "(II)I"⟩ : MethodName) jdk_29_method_69_code 2 (some .int) ws ({ frames := 0, cells := 0, slots := 0, locals := 0 } : Room) #[(.int x0), (.int x1)] h0 (Q_rm1 Z x0 x1 h0 n0) := by
  refine OCon.of pf_rm1 ?_
  intro p e s m below meth c s₁ Φ X0 hx hby hml hown hnm hret hlk hZ e0 hΦ
  have N0 := Fr.nil n0
  refine OGo.st (fun _ kz => castTop (ef_rm1 m x0 x1) kz) ?_
  show OGo p.tables e below Φ (s₁.setTop (mkF m 0 #[.val (.int x0), .val (.int x1)] []))
  refine OGo.st (fun _ kz => XS.iloadN X0.here hx rfl (hb hby d_jdk_29_method_69_0) rfl kz) ?_
  show OGo p.tables e below Φ (s₁.setTop (mkF m 1 #[.val (.int x0), .val (.int x1)] [(.int x0)]))
  refine OGo.st (fun _ kz => XS.iloadN X0.here hx rfl (hb hby d_jdk_29_method_69_1) rfl kz) ?_
  show OGo p.tables e below Φ (s₁.setTop (mkF m 2 #[.val (.int x0), .val (.int x1)] [(.int x1), (.int x0)]))
  by_cases hc1 : x1 < x0
  · refine OGo.st (fun _ kz => XS.icmpYes X0.here hx rfl (pc0 := 2) (pc' := 9) rfl (hb hby d_jdk_29_method_69_2) rfl (XT.ii_gt_t hc1) (by decide) (by decide) kz) ?_
    show OGo p.tables e below Φ (s₁.setTop (mkF m 9 #[.val (.int x0), .val (.int x1)] []))
    refine OGo.st (fun _ kz => XS.iloadN X0.here hx rfl (hb hby d_jdk_29_method_69_9) rfl kz) ?_
    show OGo p.tables e below Φ (s₁.setTop (mkF m 10 #[.val (.int x0), .val (.int x1)] [(.int x1)]))
    refine OGo.fin X0 hlk (v := (some (.int x1))) (fun h => by rw [hret] at h; cases h) (by decide) (by decide) (fun fs hr => X0.ireturnOut hx hret rfl (by simp) (hb hby d_jdk_29_method_69_10) hr) fun U eU hF => hΦ _ _ _ ?_ hF
    rw [eU, e0]
    show Q_rm1 Z x0 x1 h0 n0 _ _ _
    exact ⟨by simp [own_min, hc1], N0, rfl⟩
  · refine OGo.st (fun _ kz => XS.icmpNo X0.here hx rfl (hb hby d_jdk_29_method_69_2) rfl (XT.ii_gt_f hc1) kz) ?_
    show OGo p.tables e below Φ (s₁.setTop (mkF m 5 #[.val (.int x0), .val (.int x1)] []))
    refine OGo.st (fun _ kz => XS.iloadN X0.here hx rfl (hb hby d_jdk_29_method_69_5) rfl kz) ?_
    show OGo p.tables e below Φ (s₁.setTop (mkF m 6 #[.val (.int x0), .val (.int x1)] [(.int x0)]))
    refine OGo.st (fun _ kz => XS.goto X0.here hx rfl (pc0 := 6) (pc' := 10) rfl (hb hby d_jdk_29_method_69_6) (by decide) (by decide) kz) ?_
    show OGo p.tables e below Φ (s₁.setTop (mkF m 10 #[.val (.int x0), .val (.int x1)] [(.int x0)]))
    refine OGo.fin X0 hlk (v := (some (.int x0))) (fun h => by rw [hret] at h; cases h) (by decide) (by decide) (fun fs hr => X0.ireturnOut hx hret rfl (by simp) (hb hby d_jdk_29_method_69_10) hr) fun U eU hF => hΦ _ _ _ ?_ hF
    rw [eU, e0]
    show Q_rm1 Z x0 x1 h0 n0 _ _ _
    exact ⟨by simp [own_min, hc1], N0, rfl⟩

theorem pf_rm2 : plainFor (⟨"java/lang/Math", "max", "(II)I"⟩ : MethodName) = true := by decide +kernel
theorem d_jdk_29_method_65_0 : decode jdk_29_method_65_code 0 = .ok (.iload_n 0, 1) := by decide +kernel
theorem d_jdk_29_method_65_1 : decode jdk_29_method_65_code 1 = .ok (.iload_n 1, 1) := by decide +kernel
theorem d_jdk_29_method_65_2 : decode jdk_29_method_65_code 2 = .ok (.if_icmp .lt 7, 3) := by decide +kernel
theorem d_jdk_29_method_65_9 : decode jdk_29_method_65_code 9 = .ok (.iload_n 1, 1) := by decide +kernel
theorem d_jdk_29_method_65_10 : decode jdk_29_method_65_code 10 = .ok (.ireturn, 1) := by decide +kernel
theorem d_jdk_29_method_65_5 : decode jdk_29_method_65_code 5 = .ok (.iload_n 0, 1) := by decide +kernel
theorem d_jdk_29_method_65_6 : decode jdk_29_method_65_code 6 = .ok (.goto 4, 3) := by decide +kernel
theorem ef_rm2 (m : MethodId) (x0 : Int32) (x1 : Int32) : entryFrame m #[(.int x0), (.int x1)] 2 = mkF m 0 #[.val (.int x0), .val (.int x1)] [] := by first | (simp [entryFrame, mkF, argsToLocals, Value.category]; done) | rfl
def Q_rm2 (Z : State) (x0 : Int32) (x1 : Int32) (h0 : Heap) (n0 : Nat) (v : Option Value) (h : Heap) (L : List Loc) : Prop := v = some (.int (own_max x0 x1)) ∧ Fr n0 L ∧ h = h0
set_option maxRecDepth 65536 in
set_option maxHeartbeats 40000000 in
theorem rm2 (l : Launch) (Z : State) (a0 : Array Value) (hw : ∀ d ∈ tables_1, d.before a0 Z = true) (ws : List Jvm.Cond) (x0 : Int32) (x1 : Int32) (h0 : Heap) (n0 : Nat) (Z0 : n0 ≤ h0.size)  :
    OCon l Z (⟨"java/lang/Math", "max", "(II)I"⟩ : MethodName) jdk_29_method_65_code 2 (some .int) ws ({ frames := 0, cells := 0, slots := 0, locals := 0 } : Room) #[(.int x0), (.int x1)] h0 (Q_rm2 Z x0 x1 h0 n0) := by
  refine OCon.of pf_rm2 ?_
  intro p e s m below meth c s₁ Φ X0 hx hby hml hown hnm hret hlk hZ e0 hΦ
  have N0 := Fr.nil n0
  refine OGo.st (fun _ kz => castTop (ef_rm2 m x0 x1) kz) ?_
  show OGo p.tables e below Φ (s₁.setTop (mkF m 0 #[.val (.int x0), .val (.int x1)] []))
  refine OGo.st (fun _ kz => XS.iloadN X0.here hx rfl (hb hby d_jdk_29_method_65_0) rfl kz) ?_
  show OGo p.tables e below Φ (s₁.setTop (mkF m 1 #[.val (.int x0), .val (.int x1)] [(.int x0)]))
  refine OGo.st (fun _ kz => XS.iloadN X0.here hx rfl (hb hby d_jdk_29_method_65_1) rfl kz) ?_
  show OGo p.tables e below Φ (s₁.setTop (mkF m 2 #[.val (.int x0), .val (.int x1)] [(.int x1), (.int x0)]))
  by_cases hc1 : x0 < x1
  · refine OGo.st (fun _ kz => XS.icmpYes X0.here hx rfl (pc0 := 2) (pc' := 9) rfl (hb hby d_jdk_29_method_65_2) rfl (XT.ii_lt_t hc1) (by decide) (by decide) kz) ?_
    show OGo p.tables e below Φ (s₁.setTop (mkF m 9 #[.val (.int x0), .val (.int x1)] []))
    refine OGo.st (fun _ kz => XS.iloadN X0.here hx rfl (hb hby d_jdk_29_method_65_9) rfl kz) ?_
    show OGo p.tables e below Φ (s₁.setTop (mkF m 10 #[.val (.int x0), .val (.int x1)] [(.int x1)]))
    refine OGo.fin X0 hlk (v := (some (.int x1))) (fun h => by rw [hret] at h; cases h) (by decide) (by decide) (fun fs hr => X0.ireturnOut hx hret rfl (by simp) (hb hby d_jdk_29_method_65_10) hr) fun U eU hF => hΦ _ _ _ ?_ hF
    rw [eU, e0]
    show Q_rm2 Z x0 x1 h0 n0 _ _ _
    exact ⟨by simp [own_max, hc1], N0, rfl⟩
  · refine OGo.st (fun _ kz => XS.icmpNo X0.here hx rfl (hb hby d_jdk_29_method_65_2) rfl (XT.ii_lt_f hc1) kz) ?_
    show OGo p.tables e below Φ (s₁.setTop (mkF m 5 #[.val (.int x0), .val (.int x1)] []))
    refine OGo.st (fun _ kz => XS.iloadN X0.here hx rfl (hb hby d_jdk_29_method_65_5) rfl kz) ?_
    show OGo p.tables e below Φ (s₁.setTop (mkF m 6 #[.val (.int x0), .val (.int x1)] [(.int x0)]))
    refine OGo.st (fun _ kz => XS.goto X0.here hx rfl (pc0 := 6) (pc' := 10) rfl (hb hby d_jdk_29_method_65_6) (by decide) (by decide) kz) ?_
    show OGo p.tables e below Φ (s₁.setTop (mkF m 10 #[.val (.int x0), .val (.int x1)] [(.int x0)]))
    refine OGo.fin X0 hlk (v := (some (.int x0))) (fun h => by rw [hret] at h; cases h) (by decide) (by decide) (fun fs hr => X0.ireturnOut hx hret rfl (by simp) (hb hby d_jdk_29_method_65_10) hr) fun U eU hF => hΦ _ _ _ ?_ hF
    rw [eU, e0]
    show Q_rm2 Z x0 x1 h0 n0 _ _ _
    exact ⟨by simp [own_max, hc1], N0, rfl⟩

theorem pn0 : plainName "java/lang/Record" = true := by first | (simp [plainName, overriddenIn]; done) | decide +kernel
theorem d_jdk_30_method_1_0 : decode jdk_30_method_1_code 0 = .ok (.aload_n 0, 1) := by decide +kernel
theorem d_jdk_30_method_1_1 : decode jdk_30_method_1_code 1 = .ok (.invokespecial 1, 3) := by decide +kernel
theorem d_jdk_30_method_1_4 : decode jdk_30_method_1_code 4 = .ok (.return_, 1) := by decide +kernel
theorem ef_rm3 (m : MethodId) (x0 : Addr) : entryFrame m #[(.ref x0)] 1 = mkF m 0 #[.val (.ref x0)] [] := by first | (simp [entryFrame, mkF, argsToLocals, Value.category]; done) | rfl
def Q_rm3 (Z : State) (a : Addr) (h0 : Heap) (n0 : Nat) (v : Option Value) (h : Heap) (L : List Loc) : Prop := v = none ∧ Fr n0 L ∧ h = h0
set_option maxRecDepth 65536 in
set_option maxHeartbeats 40000000 in
theorem rm3 (l : Launch) (Z : State) (a0 : Array Value) (hw : ∀ d ∈ tables_1, d.before a0 Z = true) (ws : List Jvm.Cond) (a : Addr) (h0 : Heap) (n0 : Nat) (Z0 : n0 ≤ h0.size)  :
    OCon l Z (⟨"java/lang/Record", "<init>", "()V"⟩ : MethodName) jdk_30_method_1_code 1 none ws ({ frames := 1, cells := 0, slots := 0, locals := 12 } : Room) #[(.ref a)] h0 (Q_rm3 Z a h0 n0) := by
  refine OCon.of (plainFor_of_name pn0) ?_
  intro p e s m below meth c s₁ Φ X0 hx hby hml hown hnm hret hlk hZ e0 hΦ
  have N0 := Fr.nil n0
  refine OGo.st (fun _ kz => castTop (ef_rm3 m a) kz) ?_
  show OGo p.tables e below Φ (s₁.setTop (mkF m 0 #[.val (.ref a)] []))
  refine OGo.st (fun _ kz => XS.aloadN X0.here hx rfl (hb hby d_jdk_30_method_1_0) rfl rfl kz) ?_
  show OGo p.tables e below Φ (s₁.setTop (mkF m 1 #[.val (.ref a)] [(.ref a)]))
  obtain ⟨T1, X1, e1, st1⟩ := initO X0 hx hZ hown (ow18 hw) (ow19 hw) (ow20 hw) e0 (g := (mkF m 1 #[.val (.ref a)] [(.ref a)])) rfl (by rw [hml]; rfl) rfl (hb hby d_jdk_30_method_1_1) (by decide) (W := 0) (Nat.le_of_eq rfl) (by decide)
  refine OGo.st st1 ?_
  show OGo p.tables e below Φ (T1.setTop (mkF m 4 #[.val (.ref a)] []))
  refine OGo.fin X1 hlk (v := none) (fun _ => rfl) (by decide) (by decide) (fun fs hr => X1.returnOut hx hret (hb hby d_jdk_30_method_1_4) hr) fun U eU hF => hΦ _ _ _ ?_ hF
  rw [eU, e1]
  show Q_rm3 Z a h0 n0 _ _ _
  exact ⟨rfl, N0, rfl⟩

theorem pn1 : plainName "com/example/bowerbird/bowerbird/model/IntRange" = true := by first | (simp [plainName, overriddenIn]; done) | decide +kernel
theorem d_prog_55_method_1_0 : decode prog_55_method_1_code 0 = .ok (.aload_n 0, 1) := by decide +kernel
theorem d_prog_55_method_1_1 : decode prog_55_method_1_code 1 = .ok (.invokespecial 1, 3) := by decide +kernel
theorem pd0 : parseMethodDescriptor "()V" = some ⟨[], none⟩ := by decide +kernel
theorem d_prog_55_method_1_4 : decode prog_55_method_1_code 4 = .ok (.aload_n 0, 1) := by decide +kernel
theorem d_prog_55_method_1_5 : decode prog_55_method_1_code 5 = .ok (.iload_n 1, 1) := by decide +kernel
theorem d_prog_55_method_1_6 : decode prog_55_method_1_code 6 = .ok (.putfield 7, 3) := by decide +kernel
theorem d_prog_55_method_1_9 : decode prog_55_method_1_code 9 = .ok (.aload_n 0, 1) := by decide +kernel
theorem d_prog_55_method_1_10 : decode prog_55_method_1_code 10 = .ok (.iload_n 2, 1) := by decide +kernel
theorem d_prog_55_method_1_11 : decode prog_55_method_1_code 11 = .ok (.putfield 13, 3) := by decide +kernel
theorem d_prog_55_method_1_14 : decode prog_55_method_1_code 14 = .ok (.return_, 1) := by decide +kernel
theorem ef_rm4 (m : MethodId) (x0 : Addr) (x1 : Int32) (x2 : Int32) : entryFrame m #[(.ref x0), (.int x1), (.int x2)] 3 = mkF m 0 #[.val (.ref x0), .val (.int x1), .val (.int x2)] [] := by first | (simp [entryFrame, mkF, argsToLocals, Value.category]; done) | rfl
def Q_rm4 (Z : State) (a : Addr) (x1 : Int32) (x2 : Int32) (u0 : Value) (u1 : Value) (h0 : Heap) (n0 : Nat) (v : Option Value) (h : Heap) (L : List Loc) : Prop := v = none ∧ Fr n0 L ∧ Keep h0 h [a] ∧ Exa Z h a "com/example/bowerbird/bowerbird/model/IntRange" ∧ Fld Z h a "com/example/bowerbird/bowerbird/model/IntRange" "min" "I" (.int x1) ∧ Fld Z h a "com/example/bowerbird/bowerbird/model/IntRange" "max" "I" (.int x2)
set_option maxRecDepth 65536 in
set_option maxHeartbeats 40000000 in
theorem rm4 (l : Launch) (Z : State) (a0 : Array Value) (hw : ∀ d ∈ tables_1, d.before a0 Z = true) (ws : List Jvm.Cond) (a : Addr) (x1 : Int32) (x2 : Int32) (u0 : Value) (u1 : Value) (h0 : Heap) (n0 : Nat) (Z0 : n0 ≤ h0.size) (E_a : Exa Z h0 a "com/example/bowerbird/bowerbird/model/IntRange") (g_a : n0 ≤ a) (F_0 : Fld Z h0 a "com/example/bowerbird/bowerbird/model/IntRange" "min" "I" u0) (F_1 : Fld Z h0 a "com/example/bowerbird/bowerbird/model/IntRange" "max" "I" u1) :
    OCon l Z (⟨"com/example/bowerbird/bowerbird/model/IntRange", "<init>", "(II)V"⟩ : MethodName) prog_55_method_1_code 3 none ws ({ frames := 2, cells := 0, slots := 0, locals := 24 } : Room) #[(.ref a), (.int x1), (.int x2)] h0 (Q_rm4 Z a x1 x2 u0 u1 h0 n0) := by
  refine OCon.of (plainFor_of_name pn1) ?_
  intro p e s m below meth c s₁ Φ X0 hx hby hml hown hnm hret hlk hZ e0 hΦ
  have N0 := Fr.nil n0
  refine OGo.st (fun _ kz => castTop (ef_rm4 m a x1 x2) kz) ?_
  have K0 := Keep.refl h0 [a]
  show OGo p.tables e below Φ (s₁.setTop (mkF m 0 #[.val (.ref a), .val (.int x1), .val (.int x2)] []))
  refine OGo.st (fun _ kz => XS.aloadN X0.here hx rfl (hb hby d_prog_55_method_1_0) rfl rfl kz) ?_
  show OGo p.tables e below Φ (s₁.setTop (mkF m 1 #[.val (.ref a), .val (.int x1), .val (.int x2)] [(.ref a)]))
  obtain ⟨_, T1, L1, X1, hQ1, st1⟩ := own_callSp X0 hx hZ rfl hown (ow13 hw) (ow14 hw) (ow16 hw) (ow17 hw) (by decide) (rm3 l Z a0 hw [] a h0 n0 Z0 ) e0 (W := 0) (by decide) (by decide) (by decide) (by decide) (pc := 1) (ls := #[.val (.ref a), .val (.int x1), .val (.int x2)]) (stk := [(.ref a)]) (by rw [hml]; rfl) (a := a) (argsL := []) (rest := []) (lenOf pd0 rfl) rfl rfl (Nat.le_of_eq rfl) (hb hby d_prog_55_method_1_1)
  obtain ⟨rfl, Nq1, e1⟩ := hQ1
  have N1 := Fr.app N0 Nq1
  refine OGo.st st1 ?_
  show OGo p.tables e below Φ (T1.setTop (mkF m 4 #[.val (.ref a), .val (.int x1), .val (.int x2)] []))
  refine OGo.st (fun _ kz => XS.aloadN X1.here hx rfl (hb hby d_prog_55_method_1_4) rfl rfl kz) ?_
  show OGo p.tables e below Φ (T1.setTop (mkF m 5 #[.val (.ref a), .val (.int x1), .val (.int x2)] [(.ref a)]))
  refine OGo.st (fun _ kz => XS.iloadN X1.here hx rfl (hb hby d_prog_55_method_1_5) rfl kz) ?_
  show OGo p.tables e below Φ (T1.setTop (mkF m 6 #[.val (.ref a), .val (.int x1), .val (.int x2)] [(.int x1), (.ref a)]))
  obtain ⟨T2, h2, X2, e2, W2, st2⟩ := putF X1 hx hZ hown (host := "") (Or.inl (ow21 hw)) Via.refl e1 F_0 E_a (Or.inr ⟨(ow22 hw), rfl, hnm⟩) (ow8 hw) (ty := .int) (by decide) rfl rfl (g := (mkF m 6 #[.val (.ref a), .val (.int x1), .val (.int x2)] [(.int x1), (.ref a)])) rfl rfl (hb hby d_prog_55_method_1_6)
  have F3 := E_a.wr W2
  have F4 := F_0.same W2
  have F5 := F_1.other W2 (Or.inr (slot_ne (Or.inr (ow24 hw)) (Or.inr (ow22 hw)) (by decide) (t := .int) (t' := .int) (by decide) (by decide)))
  have K2 := K0.wr W2 (Or.inl (List.mem_of_getElem? (i := 0) rfl))
  have N2 := Fr.snoc X2 N1 g_a
  have Zs2 : n0 ≤ h2.size := by rw [W2.size]; exact Z0
  refine OGo.st st2 ?_
  show OGo p.tables e below Φ (T2.setTop (mkF m 9 #[.val (.ref a), .val (.int x1), .val (.int x2)] []))
  refine OGo.st (fun _ kz => XS.aloadN X2.here hx rfl (hb hby d_prog_55_method_1_9) rfl rfl kz) ?_
  show OGo p.tables e below Φ (T2.setTop (mkF m 10 #[.val (.ref a), .val (.int x1), .val (.int x2)] [(.ref a)]))
  refine OGo.st (fun _ kz => XS.iloadN X2.here hx rfl (hb hby d_prog_55_method_1_10) rfl kz) ?_
  show OGo p.tables e below Φ (T2.setTop (mkF m 11 #[.val (.ref a), .val (.int x1), .val (.int x2)] [(.int x2), (.ref a)]))
  obtain ⟨T6, h6, X6, e6, W6, st6⟩ := putF X2 hx hZ hown (host := "") (Or.inl (ow23 hw)) Via.refl e2 F5 F3 (Or.inr ⟨(ow24 hw), rfl, hnm⟩) (ow8 hw) (ty := .int) (by decide) rfl rfl (g := (mkF m 11 #[.val (.ref a), .val (.int x1), .val (.int x2)] [(.int x2), (.ref a)])) rfl rfl (hb hby d_prog_55_method_1_11)
  have F7 := F3.wr W6
  have F8 := F4.other W6 (Or.inr (slot_ne (Or.inr (ow22 hw)) (Or.inr (ow24 hw)) (by decide) (t := .int) (t' := .int) (by decide) (by decide)))
  have F9 := F5.same W6
  have K6 := K2.wr W6 (Or.inl (List.mem_of_getElem? (i := 0) rfl))
  have N6 := Fr.snoc X6 N2 g_a
  have Zs6 : n0 ≤ h6.size := by rw [W6.size]; exact Zs2
  refine OGo.st st6 ?_
  show OGo p.tables e below Φ (T6.setTop (mkF m 14 #[.val (.ref a), .val (.int x1), .val (.int x2)] []))
  refine OGo.fin X6 hlk (v := none) (fun _ => rfl) (by decide) (by decide) (fun fs hr => X6.returnOut hx hret (hb hby d_prog_55_method_1_14) hr) fun U eU hF => hΦ _ _ _ ?_ hF
  rw [eU, e6]
  show Q_rm4 Z a x1 x2 u0 u1 h0 n0 _ _ _
  exact ⟨rfl, N6, K6, F7, F8, F9⟩

theorem d_prog_55_method_3_0 : decode prog_55_method_3_code 0 = .ok (.aload_n 0, 1) := by decide +kernel
theorem d_prog_55_method_3_1 : decode prog_55_method_3_code 1 = .ok (.getfield 13, 3) := by decide +kernel
theorem d_prog_55_method_3_4 : decode prog_55_method_3_code 4 = .ok (.i2l, 1) := by decide +kernel
theorem d_prog_55_method_3_5 : decode prog_55_method_3_code 5 = .ok (.aload_n 0, 1) := by decide +kernel
theorem d_prog_55_method_3_6 : decode prog_55_method_3_code 6 = .ok (.getfield 7, 3) := by decide +kernel
theorem d_prog_55_method_3_9 : decode prog_55_method_3_code 9 = .ok (.i2l, 1) := by decide +kernel
theorem d_prog_55_method_3_10 : decode prog_55_method_3_code 10 = .ok (.lsub, 1) := by decide +kernel
theorem d_prog_55_method_3_11 : decode prog_55_method_3_code 11 = .ok (.lconst 1, 1) := by decide +kernel
theorem d_prog_55_method_3_12 : decode prog_55_method_3_code 12 = .ok (.ladd, 1) := by decide +kernel
theorem d_prog_55_method_3_13 : decode prog_55_method_3_code 13 = .ok (.lreturn, 1) := by decide +kernel
theorem ef_rm5 (m : MethodId) (x0 : Addr) : entryFrame m #[(.ref x0)] 1 = mkF m 0 #[.val (.ref x0)] [] := by first | (simp [entryFrame, mkF, argsToLocals, Value.category]; done) | rfl
def Q_rm5 (Z : State) (a : Addr) (lo : Int32) (hi : Int32) (h0 : Heap) (n0 : Nat) (v : Option Value) (h : Heap) (L : List Loc) : Prop := v = some (.long (own_size lo hi)) ∧ Fr n0 L ∧ h = h0
set_option maxRecDepth 65536 in
set_option maxHeartbeats 40000000 in
theorem rm5 (l : Launch) (Z : State) (a0 : Array Value) (hw : ∀ d ∈ tables_1, d.before a0 Z = true) (ws : List Jvm.Cond) (a : Addr) (lo : Int32) (hi : Int32) (h0 : Heap) (n0 : Nat) (Z0 : n0 ≤ h0.size) (F_s : Fld Z h0 a "com/example/bowerbird/bowerbird/model/IntRange" "min" "I" (.int lo)) (F_e : Fld Z h0 a "com/example/bowerbird/bowerbird/model/IntRange" "max" "I" (.int hi)) :
    OCon l Z (⟨"com/example/bowerbird/bowerbird/model/IntRange", "size", "()J"⟩ : MethodName) prog_55_method_3_code 1 (some .long) ws ({ frames := 0, cells := 0, slots := 0, locals := 0 } : Room) #[(.ref a)] h0 (Q_rm5 Z a lo hi h0 n0) := by
  refine OCon.of (plainFor_of_name pn1) ?_
  intro p e s m below meth c s₁ Φ X0 hx hby hml hown hnm hret hlk hZ e0 hΦ
  have N0 := Fr.nil n0
  refine OGo.st (fun _ kz => castTop (ef_rm5 m a) kz) ?_
  show OGo p.tables e below Φ (s₁.setTop (mkF m 0 #[.val (.ref a)] []))
  refine OGo.st (fun _ kz => XS.aloadN X0.here hx rfl (hb hby d_prog_55_method_3_0) rfl rfl kz) ?_
  show OGo p.tables e below Φ (s₁.setTop (mkF m 1 #[.val (.ref a)] [(.ref a)]))
  obtain ⟨T1, X1, e1, st1⟩ := getF X0 hx hZ hown (host := "") (Or.inl (ow23 hw)) Via.refl e0 F_e (g := (mkF m 1 #[.val (.ref a)] [(.ref a)])) rfl rfl (hb hby d_prog_55_method_3_1)
  refine OGo.st st1 ?_
  show OGo p.tables e below Φ (T1.setTop (mkF m 4 #[.val (.ref a)] [(.int hi)]))
  refine OGo.st (fun _ kz => XT.i2l X1.here hx rfl (hb hby d_prog_55_method_3_4) rfl kz) ?_
  show OGo p.tables e below Φ (T1.setTop (mkF m 5 #[.val (.ref a)] [(.long (hi.toInt64))]))
  refine OGo.st (fun _ kz => XS.aloadN X1.here hx rfl (hb hby d_prog_55_method_3_5) rfl rfl kz) ?_
  show OGo p.tables e below Φ (T1.setTop (mkF m 6 #[.val (.ref a)] [(.ref a), (.long (hi.toInt64))]))
  obtain ⟨T2, X2, e2, st2⟩ := getF X1 hx hZ hown (host := "") (Or.inl (ow21 hw)) Via.refl e1 F_s (g := (mkF m 6 #[.val (.ref a)] [(.ref a), (.long (hi.toInt64))])) rfl rfl (hb hby d_prog_55_method_3_6)
  refine OGo.st st2 ?_
  show OGo p.tables e below Φ (T2.setTop (mkF m 9 #[.val (.ref a)] [(.int lo), (.long (hi.toInt64))]))
  refine OGo.st (fun _ kz => XT.i2l X2.here hx rfl (hb hby d_prog_55_method_3_9) rfl kz) ?_
  show OGo p.tables e below Φ (T2.setTop (mkF m 10 #[.val (.ref a)] [(.long (lo.toInt64)), (.long (hi.toInt64))]))
  refine OGo.st (fun _ kz => XT.lsub X2.here hx rfl (hb hby d_prog_55_method_3_10) rfl kz) ?_
  show OGo p.tables e below Φ (T2.setTop (mkF m 11 #[.val (.ref a)] [(.long ((hi.toInt64) - (lo.toInt64)))]))
  refine OGo.st (fun _ kz => XT.lconst X2.here hx rfl (hb hby d_prog_55_method_3_11) kz) ?_
  show OGo p.tables e below Φ (T2.setTop (mkF m 12 #[.val (.ref a)] [(.long (1 : Int64)), (.long ((hi.toInt64) - (lo.toInt64)))]))
  refine OGo.st (fun _ kz => XT.ladd X2.here hx rfl (hb hby d_prog_55_method_3_12) rfl kz) ?_
  show OGo p.tables e below Φ (T2.setTop (mkF m 13 #[.val (.ref a)] [(.long (((hi.toInt64) - (lo.toInt64)) + (1 : Int64)))]))
  refine OGo.fin X2 hlk (v := (some (.long (((hi.toInt64) - (lo.toInt64)) + (1 : Int64))))) (fun h => by rw [hret] at h; cases h) (by decide) (by decide) (fun fs hr => X2.lreturnOut hx hret (hb hby d_prog_55_method_3_13) hr) fun U eU hF => hΦ _ _ _ ?_ hF
  rw [eU, e2]
  show Q_rm5 Z a lo hi h0 n0 _ _ _
  exact ⟨rfl, N0, rfl⟩

theorem pn2 : plainName "com/example/bowerbird/bowerbird/model/IntRangeSizePinLaw" = true := by first | (simp [plainName, overriddenIn]; done) | decide +kernel
theorem pd1 : parseMethodDescriptor "(II)I" = some ⟨[.int, .int], some .int⟩ := by decide +kernel
theorem pd2 : parseMethodDescriptor "(II)V" = some ⟨[.int, .int], none⟩ := by decide +kernel
theorem pd3 : parseMethodDescriptor "()J" = some ⟨[], some .long⟩ := by decide +kernel
theorem ef_rm0 (m : MethodId) (x0 : Int32) (x1 : Int32) (x2 : Int32) : entryFrame m #[(.int x0), (.int x1), (.int x2)] maxLocals = mkF m 0 #[.val (.int x0), .val (.int x1), .val (.int x2), .unset, .unset, .unset, .unset, .unset, .unset, .unset, .unset, .unset, .unset, .unset] [] := by first | (simp [entryFrame, mkF, argsToLocals, Value.category, maxLocals]; done) | rfl
def Q_rm0 (Z : State) (xu : Int32) (xv : Int32) (xk : Int32) (h0 : Heap) (n0 : Nat) (v : Option Value) (h : Heap) (L : List Loc) : Prop := v = some (.int (1 : Int32)) ∧ Fr n0 L
set_option maxRecDepth 65536 in
set_option maxHeartbeats 40000000 in
theorem rm0 (l : Launch) (Z : State) (a0 : Array Value) (hw : ∀ d ∈ tables_1, d.before a0 Z = true) (ws : List Jvm.Cond) (xu : Int32) (xv : Int32) (xk : Int32) (h0 : Heap) (n0 : Nat) (Z0 : n0 ≤ h0.size)  :
    OCon l Z x code maxLocals ret ws room_1 #[(.int xu), (.int xv), (.int xk)] h0 (Q_rm0 Z xu xv xk h0 n0) := by
  refine OCon.of (plainFor_of_name pn2) ?_
  intro p e s m below meth c s₁ Φ X0 hx hby hml hown hnm hret hlk hZ e0 hΦ
  have N0 := Fr.nil n0
  refine OGo.st (fun _ kz => castTop (ef_rm0 m xu xv xk) kz) ?_
  show OGo p.tables e below Φ (s₁.setTop (mkF m 0 #[.val (.int xu), .val (.int xv), .val (.int xk), .unset, .unset, .unset, .unset, .unset, .unset, .unset, .unset, .unset, .unset, .unset] []))
  refine OGo.st (fun _ kz => XS.iloadN X0.here hx rfl (hb hby at_0) rfl kz) ?_
  show OGo p.tables e below Φ (s₁.setTop (mkF m 1 #[.val (.int xu), .val (.int xv), .val (.int xk), .unset, .unset, .unset, .unset, .unset, .unset, .unset, .unset, .unset, .unset, .unset] [(.int xu)]))
  refine OGo.st (fun _ kz => XS.iloadN X0.here hx rfl (hb hby at_1) rfl kz) ?_
  show OGo p.tables e below Φ (s₁.setTop (mkF m 2 #[.val (.int xu), .val (.int xv), .val (.int xk), .unset, .unset, .unset, .unset, .unset, .unset, .unset, .unset, .unset, .unset, .unset] [(.int xv), (.int xu)]))
  obtain ⟨_, T1, L1, X1, hQ1, st1⟩ := own_callSt X0 hx hZ hown (ow0 hw) (ow1 hw) (ow2 hw) (ow3 hw) (by decide) (rm1 l Z a0 hw [] xu xv h0 n0 Z0 ) e0 (W := 0) (by decide) (by decide) (by decide) (by decide) (pc := 2) (ls := #[.val (.int xu), .val (.int xv), .val (.int xk), .unset, .unset, .unset, .unset, .unset, .unset, .unset, .unset, .unset, .unset, .unset]) (stk := [(.int xv), (.int xu)]) (by rw [hml]; rfl) (argsL := [(.int xu), (.int xv)]) (rest := []) (lenOf pd1 rfl) rfl rfl (Nat.le_of_eq rfl) (hb hby at_2)
  obtain ⟨rfl, Nq1, e1⟩ := hQ1
  have N1 := Fr.app N0 Nq1
  refine OGo.st st1 ?_
  show OGo p.tables e below Φ (T1.setTop (mkF m 5 #[.val (.int xu), .val (.int xv), .val (.int xk), .unset, .unset, .unset, .unset, .unset, .unset, .unset, .unset, .unset, .unset, .unset] [(.int (own_min xu xv))]))
  refine OGo.st (fun _ kz => XS.istoreN X1.here hx rfl (hb hby at_5) rfl (l' := #[.val (.int xu), .val (.int xv), .val (.int xk), .val (.int (own_min xu xv)), .unset, .unset, .unset, .unset, .unset, .unset, .unset, .unset, .unset, .unset]) rfl kz) ?_
  show OGo p.tables e below Φ (T1.setTop (mkF m 6 #[.val (.int xu), .val (.int xv), .val (.int xk), .val (.int (own_min xu xv)), .unset, .unset, .unset, .unset, .unset, .unset, .unset, .unset, .unset, .unset] []))
  refine OGo.st (fun _ kz => XS.iloadN X1.here hx rfl (hb hby at_6) rfl kz) ?_
  show OGo p.tables e below Φ (T1.setTop (mkF m 7 #[.val (.int xu), .val (.int xv), .val (.int xk), .val (.int (own_min xu xv)), .unset, .unset, .unset, .unset, .unset, .unset, .unset, .unset, .unset, .unset] [(.int xu)]))
  refine OGo.st (fun _ kz => XS.iloadN X1.here hx rfl (hb hby at_7) rfl kz) ?_
  show OGo p.tables e below Φ (T1.setTop (mkF m 8 #[.val (.int xu), .val (.int xv), .val (.int xk), .val (.int (own_min xu xv)), .unset, .unset, .unset, .unset, .unset, .unset, .unset, .unset, .unset, .unset] [(.int xv), (.int xu)]))
  obtain ⟨_, T2, L2, X2, hQ2, st2⟩ := own_callSt X1 hx hZ hown (ow4 hw) (ow5 hw) (ow2 hw) (ow6 hw) (by decide) (rm2 l Z a0 hw [] xu xv h0 n0 Z0 ) e1 (W := 0) (by decide) (by decide) (by decide) (by decide) (pc := 8) (ls := #[.val (.int xu), .val (.int xv), .val (.int xk), .val (.int (own_min xu xv)), .unset, .unset, .unset, .unset, .unset, .unset, .unset, .unset, .unset, .unset]) (stk := [(.int xv), (.int xu)]) (by rw [hml]; rfl) (argsL := [(.int xu), (.int xv)]) (rest := []) (lenOf pd1 rfl) rfl rfl (Nat.le_of_eq rfl) (hb hby at_8)
  obtain ⟨rfl, Nq2, e2⟩ := hQ2
  have N2 := Fr.app N1 Nq2
  refine OGo.st st2 ?_
  show OGo p.tables e below Φ (T2.setTop (mkF m 11 #[.val (.int xu), .val (.int xv), .val (.int xk), .val (.int (own_min xu xv)), .unset, .unset, .unset, .unset, .unset, .unset, .unset, .unset, .unset, .unset] [(.int (own_max xu xv))]))
  refine OGo.st (fun _ kz => XS.istore X2.here hx rfl (hb hby at_11) rfl (l' := #[.val (.int xu), .val (.int xv), .val (.int xk), .val (.int (own_min xu xv)), .val (.int (own_max xu xv)), .unset, .unset, .unset, .unset, .unset, .unset, .unset, .unset, .unset]) rfl kz) ?_
  show OGo p.tables e below Φ (T2.setTop (mkF m 13 #[.val (.int xu), .val (.int xv), .val (.int xk), .val (.int (own_min xu xv)), .val (.int (own_max xu xv)), .unset, .unset, .unset, .unset, .unset, .unset, .unset, .unset, .unset] []))
  obtain ⟨T3, h3, X3, e3, E3, A3, D3, U3, st3⟩ := newO X2 hx hZ hown (ow7 hw) (ow8 hw) (ow9 hw) e2 (g := (mkF m 13 #[.val (.int xu), .val (.int xv), .val (.int xk), .val (.int (own_min xu xv)), .val (.int (own_max xu xv)), .unset, .unset, .unset, .unset, .unset, .unset, .unset, .unset, .unset] [])) rfl (hb hby at_13) (by decide) (by decide)
  obtain ⟨b3, g3⟩ : ∃ z, z = h0.size := ⟨_, rfl⟩
  rw [← g3] at A3 D3 st3 U3
  have gb3 : n0 ≤ b3 := Nat.le_trans Z0 (Nat.le_of_eq g3.symm)
  have Zs3 : n0 ≤ h3.size := Nat.le_trans Z0 E3.1
  have F3_22 : Fld Z h3 b3 "com/example/bowerbird/bowerbird/model/IntRange" "min" "I" (.int (0 : Int32)) := D3 (Or.inr (ow22 hw)) (ty := .int) (by decide)
  have F3_24 : Fld Z h3 b3 "com/example/bowerbird/bowerbird/model/IntRange" "max" "I" (.int (0 : Int32)) := D3 (Or.inr (ow24 hw)) (ty := .int) (by decide)
  refine OGo.st (st3) ?_
  show OGo p.tables e below Φ (T3.setTop (mkF m 16 #[.val (.int xu), .val (.int xv), .val (.int xk), .val (.int (own_min xu xv)), .val (.int (own_max xu xv)), .unset, .unset, .unset, .unset, .unset, .unset, .unset, .unset, .unset] [(.ref b3)]))
  refine OGo.st (fun _ kz => XS.dup X3.here hx rfl (hb hby at_16) rfl rfl kz) ?_
  show OGo p.tables e below Φ (T3.setTop (mkF m 17 #[.val (.int xu), .val (.int xv), .val (.int xk), .val (.int (own_min xu xv)), .val (.int (own_max xu xv)), .unset, .unset, .unset, .unset, .unset, .unset, .unset, .unset, .unset] [(.ref b3), (.ref b3)]))
  refine OGo.st (fun _ kz => XS.iloadN X3.here hx rfl (hb hby at_17) rfl kz) ?_
  show OGo p.tables e below Φ (T3.setTop (mkF m 18 #[.val (.int xu), .val (.int xv), .val (.int xk), .val (.int (own_min xu xv)), .val (.int (own_max xu xv)), .unset, .unset, .unset, .unset, .unset, .unset, .unset, .unset, .unset] [(.int (own_min xu xv)), (.ref b3), (.ref b3)]))
  refine OGo.st (fun _ kz => XS.iload X3.here hx rfl (hb hby at_18) rfl kz) ?_
  show OGo p.tables e below Φ (T3.setTop (mkF m 20 #[.val (.int xu), .val (.int xv), .val (.int xk), .val (.int (own_min xu xv)), .val (.int (own_max xu xv)), .unset, .unset, .unset, .unset, .unset, .unset, .unset, .unset, .unset] [(.int (own_max xu xv)), (.int (own_min xu xv)), (.ref b3), (.ref b3)]))
  obtain ⟨_, T4, L4, X4, hQ4, st4⟩ := own_callSp X3 hx hZ rfl hown (ow10 hw) (ow11 hw) (ow9 hw) (ow12 hw) (by decide) (rm4 l Z a0 hw [] b3 (own_min xu xv) (own_max xu xv) (.int (0 : Int32)) (.int (0 : Int32)) h3 n0 Zs3 A3 gb3 F3_22 F3_24) e3 (W := 1) (by decide) (by decide) (by decide) (by decide) (pc := 20) (ls := #[.val (.int xu), .val (.int xv), .val (.int xk), .val (.int (own_min xu xv)), .val (.int (own_max xu xv)), .unset, .unset, .unset, .unset, .unset, .unset, .unset, .unset, .unset]) (stk := [(.int (own_max xu xv)), (.int (own_min xu xv)), (.ref b3), (.ref b3)]) (by rw [hml]; rfl) (a := b3) (argsL := [(.int (own_min xu xv)), (.int (own_max xu xv))]) (rest := [(.ref b3)]) (lenOf pd2 rfl) rfl rfl (Nat.le_of_eq rfl) (hb hby at_20)
  obtain ⟨rfl, Nq4, Kq4, Eq4, Fq4_0, Fq4_1⟩ := hQ4
  have N4 := Fr.app N2 Nq4
  have Zs4 : n0 ≤ T4.heap.size := Nat.le_trans Zs3 Kq4.1
  refine OGo.st st4 ?_
  show OGo p.tables e below Φ (T4.setTop (mkF m 23 #[.val (.int xu), .val (.int xv), .val (.int xk), .val (.int (own_min xu xv)), .val (.int (own_max xu xv)), .unset, .unset, .unset, .unset, .unset, .unset, .unset, .unset, .unset] [(.ref b3)]))
  refine OGo.st (fun _ kz => XS.astore X4.here hx rfl (hb hby at_23) rfl rfl (l' := #[.val (.int xu), .val (.int xv), .val (.int xk), .val (.int (own_min xu xv)), .val (.int (own_max xu xv)), .val (.ref b3), .unset, .unset, .unset, .unset, .unset, .unset, .unset, .unset]) rfl kz) ?_
  show OGo p.tables e below Φ (T4.setTop (mkF m 25 #[.val (.int xu), .val (.int xv), .val (.int xk), .val (.int (own_min xu xv)), .val (.int (own_max xu xv)), .val (.ref b3), .unset, .unset, .unset, .unset, .unset, .unset, .unset, .unset] []))
  refine OGo.st (fun _ kz => XS.aload X4.here hx rfl (hb hby at_25) rfl rfl kz) ?_
  show OGo p.tables e below Φ (T4.setTop (mkF m 27 #[.val (.int xu), .val (.int xv), .val (.int xk), .val (.int (own_min xu xv)), .val (.int (own_max xu xv)), .val (.ref b3), .unset, .unset, .unset, .unset, .unset, .unset, .unset, .unset] [(.ref b3)]))
  obtain ⟨_, T5, L5, X5, hQ5, st5⟩ := own_callVi X4 hx hZ hown (ow25 hw) (ow26 hw) (notFace_of_selects (args := #[]) (mvT hZ (ow28 hw))) (ow28 hw) (ow27 hw) (ow9 hw) (ow29 hw) (by decide) (rm5 l Z a0 hw [] b3 (own_min xu xv) (own_max xu xv) T4.heap n0 Zs4 Fq4_0 Fq4_1) rfl (W := 0) (by decide) (by decide) (by decide) (by decide) Eq4 (pc := 27) (ls := #[.val (.int xu), .val (.int xv), .val (.int xk), .val (.int (own_min xu xv)), .val (.int (own_max xu xv)), .val (.ref b3), .unset, .unset, .unset, .unset, .unset, .unset, .unset, .unset]) (stk := [(.ref b3)]) (by rw [hml]; rfl) (argsL := []) (rest := []) (lenOf pd3 rfl) rfl rfl (Nat.le_of_eq rfl) (hb hby at_27)
  obtain ⟨rfl, Nq5, e5⟩ := hQ5
  have N5 := Fr.app N4 Nq5
  refine OGo.st st5 ?_
  show OGo p.tables e below Φ (T5.setTop (mkF m 30 #[.val (.int xu), .val (.int xv), .val (.int xk), .val (.int (own_min xu xv)), .val (.int (own_max xu xv)), .val (.ref b3), .unset, .unset, .unset, .unset, .unset, .unset, .unset, .unset] [(.long (own_size (own_min xu xv) (own_max xu xv)))]))
  refine OGo.st (fun _ kz => XT.lstore X5.here hx rfl (hb hby at_30) rfl (l' := #[.val (.int xu), .val (.int xv), .val (.int xk), .val (.int (own_min xu xv)), .val (.int (own_max xu xv)), .val (.ref b3), .val (.long (own_size (own_min xu xv) (own_max xu xv))), .second, .unset, .unset, .unset, .unset, .unset, .unset]) rfl kz) ?_
  show OGo p.tables e below Φ (T5.setTop (mkF m 32 #[.val (.int xu), .val (.int xv), .val (.int xk), .val (.int (own_min xu xv)), .val (.int (own_max xu xv)), .val (.ref b3), .val (.long (own_size (own_min xu xv) (own_max xu xv))), .second, .unset, .unset, .unset, .unset, .unset, .unset] []))
  refine OGo.st (fun _ kz => XS.iload X5.here hx rfl (hb hby at_32) rfl kz) ?_
  show OGo p.tables e below Φ (T5.setTop (mkF m 34 #[.val (.int xu), .val (.int xv), .val (.int xk), .val (.int (own_min xu xv)), .val (.int (own_max xu xv)), .val (.ref b3), .val (.long (own_size (own_min xu xv) (own_max xu xv))), .second, .unset, .unset, .unset, .unset, .unset, .unset] [(.int (own_max xu xv))]))
  refine OGo.st (fun _ kz => XS.iloadN X5.here hx rfl (hb hby at_34) rfl kz) ?_
  show OGo p.tables e below Φ (T5.setTop (mkF m 35 #[.val (.int xu), .val (.int xv), .val (.int xk), .val (.int (own_min xu xv)), .val (.int (own_max xu xv)), .val (.ref b3), .val (.long (own_size (own_min xu xv) (own_max xu xv))), .second, .unset, .unset, .unset, .unset, .unset, .unset] [(.int (own_min xu xv)), (.int (own_max xu xv))]))
  refine OGo.st (fun _ kz => XS.isub X5.here hx rfl (hb hby at_35) rfl kz) ?_
  show OGo p.tables e below Φ (T5.setTop (mkF m 36 #[.val (.int xu), .val (.int xv), .val (.int xk), .val (.int (own_min xu xv)), .val (.int (own_max xu xv)), .val (.ref b3), .val (.long (own_size (own_min xu xv) (own_max xu xv))), .second, .unset, .unset, .unset, .unset, .unset, .unset] [(.int ((own_max xu xv) - (own_min xu xv)))]))
  refine OGo.st (fun _ kz => XT.i2l X5.here hx rfl (hb hby at_36) rfl kz) ?_
  show OGo p.tables e below Φ (T5.setTop (mkF m 37 #[.val (.int xu), .val (.int xv), .val (.int xk), .val (.int (own_min xu xv)), .val (.int (own_max xu xv)), .val (.ref b3), .val (.long (own_size (own_min xu xv) (own_max xu xv))), .second, .unset, .unset, .unset, .unset, .unset, .unset] [(.long (((own_max xu xv) - (own_min xu xv)).toInt64))]))
  refine OGo.st (fun _ kz => X5.ldc2J hx hown (mvT hZ (ow30 hw)) rfl (hb hby at_37) kz) ?_
  show OGo p.tables e below Φ (T5.setTop (mkF m 40 #[.val (.int xu), .val (.int xv), .val (.int xk), .val (.int (own_min xu xv)), .val (.int (own_max xu xv)), .val (.ref b3), .val (.long (own_size (own_min xu xv) (own_max xu xv))), .second, .unset, .unset, .unset, .unset, .unset, .unset] [(.long (4294967295 : Int64)), (.long (((own_max xu xv) - (own_min xu xv)).toInt64))]))
  refine OGo.st (fun _ kz => XT.land X5.here hx rfl (hb hby at_40) rfl kz) ?_
  show OGo p.tables e below Φ (T5.setTop (mkF m 41 #[.val (.int xu), .val (.int xv), .val (.int xk), .val (.int (own_min xu xv)), .val (.int (own_max xu xv)), .val (.ref b3), .val (.long (own_size (own_min xu xv) (own_max xu xv))), .second, .unset, .unset, .unset, .unset, .unset, .unset] [(.long ((((own_max xu xv) - (own_min xu xv)).toInt64) &&& (4294967295 : Int64)))]))
  refine OGo.st (fun _ kz => XT.lconst X5.here hx rfl (hb hby at_41) kz) ?_
  show OGo p.tables e below Φ (T5.setTop (mkF m 42 #[.val (.int xu), .val (.int xv), .val (.int xk), .val (.int (own_min xu xv)), .val (.int (own_max xu xv)), .val (.ref b3), .val (.long (own_size (own_min xu xv) (own_max xu xv))), .second, .unset, .unset, .unset, .unset, .unset, .unset] [(.long (1 : Int64)), (.long ((((own_max xu xv) - (own_min xu xv)).toInt64) &&& (4294967295 : Int64)))]))
  refine OGo.st (fun _ kz => XT.ladd X5.here hx rfl (hb hby at_42) rfl kz) ?_
  show OGo p.tables e below Φ (T5.setTop (mkF m 43 #[.val (.int xu), .val (.int xv), .val (.int xk), .val (.int (own_min xu xv)), .val (.int (own_max xu xv)), .val (.ref b3), .val (.long (own_size (own_min xu xv) (own_max xu xv))), .second, .unset, .unset, .unset, .unset, .unset, .unset] [(.long (((((own_max xu xv) - (own_min xu xv)).toInt64) &&& (4294967295 : Int64)) + (1 : Int64)))]))
  refine OGo.st (fun _ kz => XT.lstore X5.here hx rfl (hb hby at_43) rfl (l' := #[.val (.int xu), .val (.int xv), .val (.int xk), .val (.int (own_min xu xv)), .val (.int (own_max xu xv)), .val (.ref b3), .val (.long (own_size (own_min xu xv) (own_max xu xv))), .second, .val (.long (((((own_max xu xv) - (own_min xu xv)).toInt64) &&& (4294967295 : Int64)) + (1 : Int64))), .second, .unset, .unset, .unset, .unset]) rfl kz) ?_
  show OGo p.tables e below Φ (T5.setTop (mkF m 45 #[.val (.int xu), .val (.int xv), .val (.int xk), .val (.int (own_min xu xv)), .val (.int (own_max xu xv)), .val (.ref b3), .val (.long (own_size (own_min xu xv) (own_max xu xv))), .second, .val (.long (((((own_max xu xv) - (own_min xu xv)).toInt64) &&& (4294967295 : Int64)) + (1 : Int64))), .second, .unset, .unset, .unset, .unset] []))
  refine OGo.st (fun _ kz => XT.lload X5.here hx rfl (hb hby at_45) rfl kz) ?_
  show OGo p.tables e below Φ (T5.setTop (mkF m 47 #[.val (.int xu), .val (.int xv), .val (.int xk), .val (.int (own_min xu xv)), .val (.int (own_max xu xv)), .val (.ref b3), .val (.long (own_size (own_min xu xv) (own_max xu xv))), .second, .val (.long (((((own_max xu xv) - (own_min xu xv)).toInt64) &&& (4294967295 : Int64)) + (1 : Int64))), .second, .unset, .unset, .unset, .unset] [(.long (own_size (own_min xu xv) (own_max xu xv)))]))
  refine OGo.st (fun _ kz => XT.lload X5.here hx rfl (hb hby at_47) rfl kz) ?_
  show OGo p.tables e below Φ (T5.setTop (mkF m 49 #[.val (.int xu), .val (.int xv), .val (.int xk), .val (.int (own_min xu xv)), .val (.int (own_max xu xv)), .val (.ref b3), .val (.long (own_size (own_min xu xv) (own_max xu xv))), .second, .val (.long (((((own_max xu xv) - (own_min xu xv)).toInt64) &&& (4294967295 : Int64)) + (1 : Int64))), .second, .unset, .unset, .unset, .unset] [(.long (((((own_max xu xv) - (own_min xu xv)).toInt64) &&& (4294967295 : Int64)) + (1 : Int64))), (.long (own_size (own_min xu xv) (own_max xu xv)))]))
  refine OGo.st (fun _ kz => XT.lcmp X5.here hx rfl (hb hby at_49) rfl kz) ?_
  show OGo p.tables e below Φ (T5.setTop (mkF m 50 #[.val (.int xu), .val (.int xv), .val (.int xk), .val (.int (own_min xu xv)), .val (.int (own_max xu xv)), .val (.ref b3), .val (.long (own_size (own_min xu xv) (own_max xu xv))), .second, .val (.long (((((own_max xu xv) - (own_min xu xv)).toInt64) &&& (4294967295 : Int64)) + (1 : Int64))), .second, .unset, .unset, .unset, .unset] [(.int (XT.cmpL (own_size (own_min xu xv) (own_max xu xv)) (((((own_max xu xv) - (own_min xu xv)).toInt64) &&& (4294967295 : Int64)) + (1 : Int64))))]))
  by_cases hc6 : (own_size (own_min xu xv) (own_max xu xv)) = (((((own_max xu xv) - (own_min xu xv)).toInt64) &&& (4294967295 : Int64)) + (1 : Int64))
  · refine OGo.st (fun _ kz => XS.ifYes X5.here hx rfl (pc0 := 50) (pc' := 55) rfl (hb hby at_50) rfl (XT.ll_eq_t hc6) (by decide) (by decide) kz) ?_
    show OGo p.tables e below Φ (T5.setTop (mkF m 55 #[.val (.int xu), .val (.int xv), .val (.int xk), .val (.int (own_min xu xv)), .val (.int (own_max xu xv)), .val (.ref b3), .val (.long (own_size (own_min xu xv) (own_max xu xv))), .second, .val (.long (((((own_max xu xv) - (own_min xu xv)).toInt64) &&& (4294967295 : Int64)) + (1 : Int64))), .second, .unset, .unset, .unset, .unset] []))
    refine OGo.st (fun _ kz => XS.iloadN X5.here hx rfl (hb hby at_55) rfl kz) ?_
    show OGo p.tables e below Φ (T5.setTop (mkF m 56 #[.val (.int xu), .val (.int xv), .val (.int xk), .val (.int (own_min xu xv)), .val (.int (own_max xu xv)), .val (.ref b3), .val (.long (own_size (own_min xu xv) (own_max xu xv))), .second, .val (.long (((((own_max xu xv) - (own_min xu xv)).toInt64) &&& (4294967295 : Int64)) + (1 : Int64))), .second, .unset, .unset, .unset, .unset] [(.int xk)]))
    refine OGo.st (fun _ kz => XS.iloadN X5.here hx rfl (hb hby at_56) rfl kz) ?_
    show OGo p.tables e below Φ (T5.setTop (mkF m 57 #[.val (.int xu), .val (.int xv), .val (.int xk), .val (.int (own_min xu xv)), .val (.int (own_max xu xv)), .val (.ref b3), .val (.long (own_size (own_min xu xv) (own_max xu xv))), .second, .val (.long (((((own_max xu xv) - (own_min xu xv)).toInt64) &&& (4294967295 : Int64)) + (1 : Int64))), .second, .unset, .unset, .unset, .unset] [(.int (own_min xu xv)), (.int xk)]))
    by_cases hc7 : xk < (own_min xu xv)
    · refine OGo.st (fun _ kz => XS.icmpYes X5.here hx rfl (pc0 := 57) (pc' := 110) rfl (hb hby at_57) rfl (XT.ii_lt_t hc7) (by decide) (by decide) kz) ?_
      show OGo p.tables e below Φ (T5.setTop (mkF m 110 #[.val (.int xu), .val (.int xv), .val (.int xk), .val (.int (own_min xu xv)), .val (.int (own_max xu xv)), .val (.ref b3), .val (.long (own_size (own_min xu xv) (own_max xu xv))), .second, .val (.long (((((own_max xu xv) - (own_min xu xv)).toInt64) &&& (4294967295 : Int64)) + (1 : Int64))), .second, .unset, .unset, .unset, .unset] []))
      refine OGo.st (fun _ kz => XS.iconst X5.here hx rfl (hb hby at_110) kz) ?_
      show OGo p.tables e below Φ (T5.setTop (mkF m 111 #[.val (.int xu), .val (.int xv), .val (.int xk), .val (.int (own_min xu xv)), .val (.int (own_max xu xv)), .val (.ref b3), .val (.long (own_size (own_min xu xv) (own_max xu xv))), .second, .val (.long (((((own_max xu xv) - (own_min xu xv)).toInt64) &&& (4294967295 : Int64)) + (1 : Int64))), .second, .unset, .unset, .unset, .unset] [(.int (1 : Int32))]))
      refine OGo.fin X5 hlk (v := (some (.int (1 : Int32)))) (fun h => by rw [hret] at h; cases h) (by decide) (by decide) (fun fs hr => X5.ireturnOut hx hret rfl (by simp) (hb hby at_111) hr) fun U eU hF => hΦ _ _ _ ?_ hF
      rw [eU, e5]
      show Q_rm0 Z xu xv xk h0 n0 _ _ _
      exact ⟨rfl, N5⟩
    · refine OGo.st (fun _ kz => XS.icmpNo X5.here hx rfl (hb hby at_57) rfl (XT.ii_lt_f hc7) kz) ?_
      show OGo p.tables e below Φ (T5.setTop (mkF m 60 #[.val (.int xu), .val (.int xv), .val (.int xk), .val (.int (own_min xu xv)), .val (.int (own_max xu xv)), .val (.ref b3), .val (.long (own_size (own_min xu xv) (own_max xu xv))), .second, .val (.long (((((own_max xu xv) - (own_min xu xv)).toInt64) &&& (4294967295 : Int64)) + (1 : Int64))), .second, .unset, .unset, .unset, .unset] []))
      refine OGo.st (fun _ kz => XS.iloadN X5.here hx rfl (hb hby at_60) rfl kz) ?_
      show OGo p.tables e below Φ (T5.setTop (mkF m 61 #[.val (.int xu), .val (.int xv), .val (.int xk), .val (.int (own_min xu xv)), .val (.int (own_max xu xv)), .val (.ref b3), .val (.long (own_size (own_min xu xv) (own_max xu xv))), .second, .val (.long (((((own_max xu xv) - (own_min xu xv)).toInt64) &&& (4294967295 : Int64)) + (1 : Int64))), .second, .unset, .unset, .unset, .unset] [(.int xk)]))
      refine OGo.st (fun _ kz => XS.iload X5.here hx rfl (hb hby at_61) rfl kz) ?_
      show OGo p.tables e below Φ (T5.setTop (mkF m 63 #[.val (.int xu), .val (.int xv), .val (.int xk), .val (.int (own_min xu xv)), .val (.int (own_max xu xv)), .val (.ref b3), .val (.long (own_size (own_min xu xv) (own_max xu xv))), .second, .val (.long (((((own_max xu xv) - (own_min xu xv)).toInt64) &&& (4294967295 : Int64)) + (1 : Int64))), .second, .unset, .unset, .unset, .unset] [(.int (own_max xu xv)), (.int xk)]))
      by_cases hc8 : xk < (own_max xu xv)
      · refine OGo.st (fun _ kz => XS.icmpNo X5.here hx rfl (hb hby at_63) rfl (XT.ii_ge_f hc8) kz) ?_
        show OGo p.tables e below Φ (T5.setTop (mkF m 66 #[.val (.int xu), .val (.int xv), .val (.int xk), .val (.int (own_min xu xv)), .val (.int (own_max xu xv)), .val (.ref b3), .val (.long (own_size (own_min xu xv) (own_max xu xv))), .second, .val (.long (((((own_max xu xv) - (own_min xu xv)).toInt64) &&& (4294967295 : Int64)) + (1 : Int64))), .second, .unset, .unset, .unset, .unset] []))
        obtain ⟨T9, h9, X9, e9, E9, A9, D9, U9, st9⟩ := newO X5 hx hZ hown (ow7 hw) (ow8 hw) (ow9 hw) e5 (g := (mkF m 66 #[.val (.int xu), .val (.int xv), .val (.int xk), .val (.int (own_min xu xv)), .val (.int (own_max xu xv)), .val (.ref b3), .val (.long (own_size (own_min xu xv) (own_max xu xv))), .second, .val (.long (((((own_max xu xv) - (own_min xu xv)).toInt64) &&& (4294967295 : Int64)) + (1 : Int64))), .second, .unset, .unset, .unset, .unset] [])) rfl (hb hby at_66) (by decide) (by decide)
        obtain ⟨b9, g9⟩ : ∃ z, z = T4.heap.size := ⟨_, rfl⟩
        rw [← g9] at A9 D9 st9 U9
        have ne9_b3 : b3 ≠ b9 := by rw [g9]; exact Nat.ne_of_lt Eq4.lt
        have F10 := Eq4.ext E9
        have F11 := Fq4_0.ext E9
        have F12 := Fq4_1.ext E9
        have gb9 : n0 ≤ b9 := Nat.le_trans Zs4 (Nat.le_of_eq g9.symm)
        have Zs9 : n0 ≤ h9.size := Nat.le_trans Zs4 E9.1
        have F9_22 : Fld Z h9 b9 "com/example/bowerbird/bowerbird/model/IntRange" "min" "I" (.int (0 : Int32)) := D9 (Or.inr (ow22 hw)) (ty := .int) (by decide)
        have F9_24 : Fld Z h9 b9 "com/example/bowerbird/bowerbird/model/IntRange" "max" "I" (.int (0 : Int32)) := D9 (Or.inr (ow24 hw)) (ty := .int) (by decide)
        refine OGo.st (st9) ?_
        show OGo p.tables e below Φ (T9.setTop (mkF m 69 #[.val (.int xu), .val (.int xv), .val (.int xk), .val (.int (own_min xu xv)), .val (.int (own_max xu xv)), .val (.ref b3), .val (.long (own_size (own_min xu xv) (own_max xu xv))), .second, .val (.long (((((own_max xu xv) - (own_min xu xv)).toInt64) &&& (4294967295 : Int64)) + (1 : Int64))), .second, .unset, .unset, .unset, .unset] [(.ref b9)]))
        refine OGo.st (fun _ kz => XS.dup X9.here hx rfl (hb hby at_69) rfl rfl kz) ?_
        show OGo p.tables e below Φ (T9.setTop (mkF m 70 #[.val (.int xu), .val (.int xv), .val (.int xk), .val (.int (own_min xu xv)), .val (.int (own_max xu xv)), .val (.ref b3), .val (.long (own_size (own_min xu xv) (own_max xu xv))), .second, .val (.long (((((own_max xu xv) - (own_min xu xv)).toInt64) &&& (4294967295 : Int64)) + (1 : Int64))), .second, .unset, .unset, .unset, .unset] [(.ref b9), (.ref b9)]))
        refine OGo.st (fun _ kz => XS.iloadN X9.here hx rfl (hb hby at_70) rfl kz) ?_
        show OGo p.tables e below Φ (T9.setTop (mkF m 71 #[.val (.int xu), .val (.int xv), .val (.int xk), .val (.int (own_min xu xv)), .val (.int (own_max xu xv)), .val (.ref b3), .val (.long (own_size (own_min xu xv) (own_max xu xv))), .second, .val (.long (((((own_max xu xv) - (own_min xu xv)).toInt64) &&& (4294967295 : Int64)) + (1 : Int64))), .second, .unset, .unset, .unset, .unset] [(.int (own_min xu xv)), (.ref b9), (.ref b9)]))
        refine OGo.st (fun _ kz => XS.iloadN X9.here hx rfl (hb hby at_71) rfl kz) ?_
        show OGo p.tables e below Φ (T9.setTop (mkF m 72 #[.val (.int xu), .val (.int xv), .val (.int xk), .val (.int (own_min xu xv)), .val (.int (own_max xu xv)), .val (.ref b3), .val (.long (own_size (own_min xu xv) (own_max xu xv))), .second, .val (.long (((((own_max xu xv) - (own_min xu xv)).toInt64) &&& (4294967295 : Int64)) + (1 : Int64))), .second, .unset, .unset, .unset, .unset] [(.int xk), (.int (own_min xu xv)), (.ref b9), (.ref b9)]))
        obtain ⟨_, T13, L13, X13, hQ13, st13⟩ := own_callSp X9 hx hZ rfl hown (ow10 hw) (ow11 hw) (ow9 hw) (ow12 hw) (by decide) (rm4 l Z a0 hw [] b9 (own_min xu xv) xk (.int (0 : Int32)) (.int (0 : Int32)) h9 n0 Zs9 A9 gb9 F9_22 F9_24) e9 (W := 1) (by decide) (by decide) (by decide) (by decide) (pc := 72) (ls := #[.val (.int xu), .val (.int xv), .val (.int xk), .val (.int (own_min xu xv)), .val (.int (own_max xu xv)), .val (.ref b3), .val (.long (own_size (own_min xu xv) (own_max xu xv))), .second, .val (.long (((((own_max xu xv) - (own_min xu xv)).toInt64) &&& (4294967295 : Int64)) + (1 : Int64))), .second, .unset, .unset, .unset, .unset]) (stk := [(.int xk), (.int (own_min xu xv)), (.ref b9), (.ref b9)]) (by rw [hml]; rfl) (a := b9) (argsL := [(.int (own_min xu xv)), (.int xk)]) (rest := [(.ref b9)]) (lenOf pd2 rfl) rfl rfl (Nat.le_of_eq rfl) (hb hby at_72)
        obtain ⟨rfl, Nq13, Kq13, Eq13, Fq13_0, Fq13_1⟩ := hQ13
        have N13 := Fr.app N5 Nq13
        have Zs13 : n0 ≤ T13.heap.size := Nat.le_trans Zs9 Kq13.1
        have F14 := F10.keep Kq13
        have F15 := F11.keep Kq13 (ninS ne9_b3 nin0)
        have F16 := F12.keep Kq13 (ninS ne9_b3 nin0)
        refine OGo.st st13 ?_
        show OGo p.tables e below Φ (T13.setTop (mkF m 75 #[.val (.int xu), .val (.int xv), .val (.int xk), .val (.int (own_min xu xv)), .val (.int (own_max xu xv)), .val (.ref b3), .val (.long (own_size (own_min xu xv) (own_max xu xv))), .second, .val (.long (((((own_max xu xv) - (own_min xu xv)).toInt64) &&& (4294967295 : Int64)) + (1 : Int64))), .second, .unset, .unset, .unset, .unset] [(.ref b9)]))
        obtain ⟨_, T17, L17, X17, hQ17, st17⟩ := own_callVi X13 hx hZ hown (ow25 hw) (ow26 hw) (notFace_of_selects (args := #[]) (mvT hZ (ow28 hw))) (ow28 hw) (ow27 hw) (ow9 hw) (ow29 hw) (by decide) (rm5 l Z a0 hw [] b9 (own_min xu xv) xk T13.heap n0 Zs13 Fq13_0 Fq13_1) rfl (W := 0) (by decide) (by decide) (by decide) (by decide) Eq13 (pc := 75) (ls := #[.val (.int xu), .val (.int xv), .val (.int xk), .val (.int (own_min xu xv)), .val (.int (own_max xu xv)), .val (.ref b3), .val (.long (own_size (own_min xu xv) (own_max xu xv))), .second, .val (.long (((((own_max xu xv) - (own_min xu xv)).toInt64) &&& (4294967295 : Int64)) + (1 : Int64))), .second, .unset, .unset, .unset, .unset]) (stk := [(.ref b9)]) (by rw [hml]; rfl) (argsL := []) (rest := []) (lenOf pd3 rfl) rfl rfl (Nat.le_of_eq rfl) (hb hby at_75)
        obtain ⟨rfl, Nq17, e17⟩ := hQ17
        have N17 := Fr.app N13 Nq17
        refine OGo.st st17 ?_
        show OGo p.tables e below Φ (T17.setTop (mkF m 78 #[.val (.int xu), .val (.int xv), .val (.int xk), .val (.int (own_min xu xv)), .val (.int (own_max xu xv)), .val (.ref b3), .val (.long (own_size (own_min xu xv) (own_max xu xv))), .second, .val (.long (((((own_max xu xv) - (own_min xu xv)).toInt64) &&& (4294967295 : Int64)) + (1 : Int64))), .second, .unset, .unset, .unset, .unset] [(.long (own_size (own_min xu xv) xk))]))
        refine OGo.st (fun _ kz => XT.lstore X17.here hx rfl (hb hby at_78) rfl (l' := #[.val (.int xu), .val (.int xv), .val (.int xk), .val (.int (own_min xu xv)), .val (.int (own_max xu xv)), .val (.ref b3), .val (.long (own_size (own_min xu xv) (own_max xu xv))), .second, .val (.long (((((own_max xu xv) - (own_min xu xv)).toInt64) &&& (4294967295 : Int64)) + (1 : Int64))), .second, .val (.long (own_size (own_min xu xv) xk)), .second, .unset, .unset]) rfl kz) ?_
        show OGo p.tables e below Φ (T17.setTop (mkF m 80 #[.val (.int xu), .val (.int xv), .val (.int xk), .val (.int (own_min xu xv)), .val (.int (own_max xu xv)), .val (.ref b3), .val (.long (own_size (own_min xu xv) (own_max xu xv))), .second, .val (.long (((((own_max xu xv) - (own_min xu xv)).toInt64) &&& (4294967295 : Int64)) + (1 : Int64))), .second, .val (.long (own_size (own_min xu xv) xk)), .second, .unset, .unset] []))
        obtain ⟨T18, h18, X18, e18, E18, A18, D18, U18, st18⟩ := newO X17 hx hZ hown (ow7 hw) (ow8 hw) (ow9 hw) e17 (g := (mkF m 80 #[.val (.int xu), .val (.int xv), .val (.int xk), .val (.int (own_min xu xv)), .val (.int (own_max xu xv)), .val (.ref b3), .val (.long (own_size (own_min xu xv) (own_max xu xv))), .second, .val (.long (((((own_max xu xv) - (own_min xu xv)).toInt64) &&& (4294967295 : Int64)) + (1 : Int64))), .second, .val (.long (own_size (own_min xu xv) xk)), .second, .unset, .unset] [])) rfl (hb hby at_80) (by decide) (by decide)
        obtain ⟨b18, g18⟩ : ∃ z, z = T13.heap.size := ⟨_, rfl⟩
        rw [← g18] at A18 D18 st18 U18
        have ne18_b3 : b3 ≠ b18 := by rw [g18]; exact Nat.ne_of_lt F14.lt
        have ne18_b9 : b9 ≠ b18 := by rw [g18]; exact Nat.ne_of_lt Eq13.lt
        have F19 := F14.ext E18
        have F20 := F15.ext E18
        have F21 := F16.ext E18
        have F22 := Eq13.ext E18
        have F23 := Fq13_0.ext E18
        have F24 := Fq13_1.ext E18
        have gb18 : n0 ≤ b18 := Nat.le_trans Zs13 (Nat.le_of_eq g18.symm)
        have Zs18 : n0 ≤ h18.size := Nat.le_trans Zs13 E18.1
        have F18_22 : Fld Z h18 b18 "com/example/bowerbird/bowerbird/model/IntRange" "min" "I" (.int (0 : Int32)) := D18 (Or.inr (ow22 hw)) (ty := .int) (by decide)
        have F18_24 : Fld Z h18 b18 "com/example/bowerbird/bowerbird/model/IntRange" "max" "I" (.int (0 : Int32)) := D18 (Or.inr (ow24 hw)) (ty := .int) (by decide)
        refine OGo.st (st18) ?_
        show OGo p.tables e below Φ (T18.setTop (mkF m 83 #[.val (.int xu), .val (.int xv), .val (.int xk), .val (.int (own_min xu xv)), .val (.int (own_max xu xv)), .val (.ref b3), .val (.long (own_size (own_min xu xv) (own_max xu xv))), .second, .val (.long (((((own_max xu xv) - (own_min xu xv)).toInt64) &&& (4294967295 : Int64)) + (1 : Int64))), .second, .val (.long (own_size (own_min xu xv) xk)), .second, .unset, .unset] [(.ref b18)]))
        refine OGo.st (fun _ kz => XS.dup X18.here hx rfl (hb hby at_83) rfl rfl kz) ?_
        show OGo p.tables e below Φ (T18.setTop (mkF m 84 #[.val (.int xu), .val (.int xv), .val (.int xk), .val (.int (own_min xu xv)), .val (.int (own_max xu xv)), .val (.ref b3), .val (.long (own_size (own_min xu xv) (own_max xu xv))), .second, .val (.long (((((own_max xu xv) - (own_min xu xv)).toInt64) &&& (4294967295 : Int64)) + (1 : Int64))), .second, .val (.long (own_size (own_min xu xv) xk)), .second, .unset, .unset] [(.ref b18), (.ref b18)]))
        refine OGo.st (fun _ kz => XS.iloadN X18.here hx rfl (hb hby at_84) rfl kz) ?_
        show OGo p.tables e below Φ (T18.setTop (mkF m 85 #[.val (.int xu), .val (.int xv), .val (.int xk), .val (.int (own_min xu xv)), .val (.int (own_max xu xv)), .val (.ref b3), .val (.long (own_size (own_min xu xv) (own_max xu xv))), .second, .val (.long (((((own_max xu xv) - (own_min xu xv)).toInt64) &&& (4294967295 : Int64)) + (1 : Int64))), .second, .val (.long (own_size (own_min xu xv) xk)), .second, .unset, .unset] [(.int xk), (.ref b18), (.ref b18)]))
        refine OGo.st (fun _ kz => XS.iconst X18.here hx rfl (hb hby at_85) kz) ?_
        show OGo p.tables e below Φ (T18.setTop (mkF m 86 #[.val (.int xu), .val (.int xv), .val (.int xk), .val (.int (own_min xu xv)), .val (.int (own_max xu xv)), .val (.ref b3), .val (.long (own_size (own_min xu xv) (own_max xu xv))), .second, .val (.long (((((own_max xu xv) - (own_min xu xv)).toInt64) &&& (4294967295 : Int64)) + (1 : Int64))), .second, .val (.long (own_size (own_min xu xv) xk)), .second, .unset, .unset] [(.int (1 : Int32)), (.int xk), (.ref b18), (.ref b18)]))
        refine OGo.st (fun _ kz => XS.iadd X18.here hx rfl (hb hby at_86) rfl kz) ?_
        show OGo p.tables e below Φ (T18.setTop (mkF m 87 #[.val (.int xu), .val (.int xv), .val (.int xk), .val (.int (own_min xu xv)), .val (.int (own_max xu xv)), .val (.ref b3), .val (.long (own_size (own_min xu xv) (own_max xu xv))), .second, .val (.long (((((own_max xu xv) - (own_min xu xv)).toInt64) &&& (4294967295 : Int64)) + (1 : Int64))), .second, .val (.long (own_size (own_min xu xv) xk)), .second, .unset, .unset] [(.int (xk + (1 : Int32))), (.ref b18), (.ref b18)]))
        refine OGo.st (fun _ kz => XS.iload X18.here hx rfl (hb hby at_87) rfl kz) ?_
        show OGo p.tables e below Φ (T18.setTop (mkF m 89 #[.val (.int xu), .val (.int xv), .val (.int xk), .val (.int (own_min xu xv)), .val (.int (own_max xu xv)), .val (.ref b3), .val (.long (own_size (own_min xu xv) (own_max xu xv))), .second, .val (.long (((((own_max xu xv) - (own_min xu xv)).toInt64) &&& (4294967295 : Int64)) + (1 : Int64))), .second, .val (.long (own_size (own_min xu xv) xk)), .second, .unset, .unset] [(.int (own_max xu xv)), (.int (xk + (1 : Int32))), (.ref b18), (.ref b18)]))
        obtain ⟨_, T25, L25, X25, hQ25, st25⟩ := own_callSp X18 hx hZ rfl hown (ow10 hw) (ow11 hw) (ow9 hw) (ow12 hw) (by decide) (rm4 l Z a0 hw [] b18 (xk + (1 : Int32)) (own_max xu xv) (.int (0 : Int32)) (.int (0 : Int32)) h18 n0 Zs18 A18 gb18 F18_22 F18_24) e18 (W := 1) (by decide) (by decide) (by decide) (by decide) (pc := 89) (ls := #[.val (.int xu), .val (.int xv), .val (.int xk), .val (.int (own_min xu xv)), .val (.int (own_max xu xv)), .val (.ref b3), .val (.long (own_size (own_min xu xv) (own_max xu xv))), .second, .val (.long (((((own_max xu xv) - (own_min xu xv)).toInt64) &&& (4294967295 : Int64)) + (1 : Int64))), .second, .val (.long (own_size (own_min xu xv) xk)), .second, .unset, .unset]) (stk := [(.int (own_max xu xv)), (.int (xk + (1 : Int32))), (.ref b18), (.ref b18)]) (by rw [hml]; rfl) (a := b18) (argsL := [(.int (xk + (1 : Int32))), (.int (own_max xu xv))]) (rest := [(.ref b18)]) (lenOf pd2 rfl) rfl rfl (Nat.le_of_eq rfl) (hb hby at_89)
        obtain ⟨rfl, Nq25, Kq25, Eq25, Fq25_0, Fq25_1⟩ := hQ25
        have N25 := Fr.app N17 Nq25
        have Zs25 : n0 ≤ T25.heap.size := Nat.le_trans Zs18 Kq25.1
        have F26 := F19.keep Kq25
        have F27 := F20.keep Kq25 (ninS ne18_b3 nin0)
        have F28 := F21.keep Kq25 (ninS ne18_b3 nin0)
        have F29 := F22.keep Kq25
        have F30 := F23.keep Kq25 (ninS ne18_b9 nin0)
        have F31 := F24.keep Kq25 (ninS ne18_b9 nin0)
        refine OGo.st st25 ?_
        show OGo p.tables e below Φ (T25.setTop (mkF m 92 #[.val (.int xu), .val (.int xv), .val (.int xk), .val (.int (own_min xu xv)), .val (.int (own_max xu xv)), .val (.ref b3), .val (.long (own_size (own_min xu xv) (own_max xu xv))), .second, .val (.long (((((own_max xu xv) - (own_min xu xv)).toInt64) &&& (4294967295 : Int64)) + (1 : Int64))), .second, .val (.long (own_size (own_min xu xv) xk)), .second, .unset, .unset] [(.ref b18)]))
        obtain ⟨_, T32, L32, X32, hQ32, st32⟩ := own_callVi X25 hx hZ hown (ow25 hw) (ow26 hw) (notFace_of_selects (args := #[]) (mvT hZ (ow28 hw))) (ow28 hw) (ow27 hw) (ow9 hw) (ow29 hw) (by decide) (rm5 l Z a0 hw [] b18 (xk + (1 : Int32)) (own_max xu xv) T25.heap n0 Zs25 Fq25_0 Fq25_1) rfl (W := 0) (by decide) (by decide) (by decide) (by decide) Eq25 (pc := 92) (ls := #[.val (.int xu), .val (.int xv), .val (.int xk), .val (.int (own_min xu xv)), .val (.int (own_max xu xv)), .val (.ref b3), .val (.long (own_size (own_min xu xv) (own_max xu xv))), .second, .val (.long (((((own_max xu xv) - (own_min xu xv)).toInt64) &&& (4294967295 : Int64)) + (1 : Int64))), .second, .val (.long (own_size (own_min xu xv) xk)), .second, .unset, .unset]) (stk := [(.ref b18)]) (by rw [hml]; rfl) (argsL := []) (rest := []) (lenOf pd3 rfl) rfl rfl (Nat.le_of_eq rfl) (hb hby at_92)
        obtain ⟨rfl, Nq32, e32⟩ := hQ32
        have N32 := Fr.app N25 Nq32
        refine OGo.st st32 ?_
        show OGo p.tables e below Φ (T32.setTop (mkF m 95 #[.val (.int xu), .val (.int xv), .val (.int xk), .val (.int (own_min xu xv)), .val (.int (own_max xu xv)), .val (.ref b3), .val (.long (own_size (own_min xu xv) (own_max xu xv))), .second, .val (.long (((((own_max xu xv) - (own_min xu xv)).toInt64) &&& (4294967295 : Int64)) + (1 : Int64))), .second, .val (.long (own_size (own_min xu xv) xk)), .second, .unset, .unset] [(.long (own_size (xk + (1 : Int32)) (own_max xu xv)))]))
        refine OGo.st (fun _ kz => XT.lstore X32.here hx rfl (hb hby at_95) rfl (l' := #[.val (.int xu), .val (.int xv), .val (.int xk), .val (.int (own_min xu xv)), .val (.int (own_max xu xv)), .val (.ref b3), .val (.long (own_size (own_min xu xv) (own_max xu xv))), .second, .val (.long (((((own_max xu xv) - (own_min xu xv)).toInt64) &&& (4294967295 : Int64)) + (1 : Int64))), .second, .val (.long (own_size (own_min xu xv) xk)), .second, .val (.long (own_size (xk + (1 : Int32)) (own_max xu xv))), .second]) rfl kz) ?_
        show OGo p.tables e below Φ (T32.setTop (mkF m 97 #[.val (.int xu), .val (.int xv), .val (.int xk), .val (.int (own_min xu xv)), .val (.int (own_max xu xv)), .val (.ref b3), .val (.long (own_size (own_min xu xv) (own_max xu xv))), .second, .val (.long (((((own_max xu xv) - (own_min xu xv)).toInt64) &&& (4294967295 : Int64)) + (1 : Int64))), .second, .val (.long (own_size (own_min xu xv) xk)), .second, .val (.long (own_size (xk + (1 : Int32)) (own_max xu xv))), .second] []))
        refine OGo.st (fun _ kz => XT.lload X32.here hx rfl (hb hby at_97) rfl kz) ?_
        show OGo p.tables e below Φ (T32.setTop (mkF m 99 #[.val (.int xu), .val (.int xv), .val (.int xk), .val (.int (own_min xu xv)), .val (.int (own_max xu xv)), .val (.ref b3), .val (.long (own_size (own_min xu xv) (own_max xu xv))), .second, .val (.long (((((own_max xu xv) - (own_min xu xv)).toInt64) &&& (4294967295 : Int64)) + (1 : Int64))), .second, .val (.long (own_size (own_min xu xv) xk)), .second, .val (.long (own_size (xk + (1 : Int32)) (own_max xu xv))), .second] [(.long (own_size (own_min xu xv) xk))]))
        refine OGo.st (fun _ kz => XT.lload X32.here hx rfl (hb hby at_99) rfl kz) ?_
        show OGo p.tables e below Φ (T32.setTop (mkF m 101 #[.val (.int xu), .val (.int xv), .val (.int xk), .val (.int (own_min xu xv)), .val (.int (own_max xu xv)), .val (.ref b3), .val (.long (own_size (own_min xu xv) (own_max xu xv))), .second, .val (.long (((((own_max xu xv) - (own_min xu xv)).toInt64) &&& (4294967295 : Int64)) + (1 : Int64))), .second, .val (.long (own_size (own_min xu xv) xk)), .second, .val (.long (own_size (xk + (1 : Int32)) (own_max xu xv))), .second] [(.long (own_size (xk + (1 : Int32)) (own_max xu xv))), (.long (own_size (own_min xu xv) xk))]))
        refine OGo.st (fun _ kz => XT.ladd X32.here hx rfl (hb hby at_101) rfl kz) ?_
        show OGo p.tables e below Φ (T32.setTop (mkF m 102 #[.val (.int xu), .val (.int xv), .val (.int xk), .val (.int (own_min xu xv)), .val (.int (own_max xu xv)), .val (.ref b3), .val (.long (own_size (own_min xu xv) (own_max xu xv))), .second, .val (.long (((((own_max xu xv) - (own_min xu xv)).toInt64) &&& (4294967295 : Int64)) + (1 : Int64))), .second, .val (.long (own_size (own_min xu xv) xk)), .second, .val (.long (own_size (xk + (1 : Int32)) (own_max xu xv))), .second] [(.long ((own_size (own_min xu xv) xk) + (own_size (xk + (1 : Int32)) (own_max xu xv))))]))
        refine OGo.st (fun _ kz => XT.lload X32.here hx rfl (hb hby at_102) rfl kz) ?_
        show OGo p.tables e below Φ (T32.setTop (mkF m 104 #[.val (.int xu), .val (.int xv), .val (.int xk), .val (.int (own_min xu xv)), .val (.int (own_max xu xv)), .val (.ref b3), .val (.long (own_size (own_min xu xv) (own_max xu xv))), .second, .val (.long (((((own_max xu xv) - (own_min xu xv)).toInt64) &&& (4294967295 : Int64)) + (1 : Int64))), .second, .val (.long (own_size (own_min xu xv) xk)), .second, .val (.long (own_size (xk + (1 : Int32)) (own_max xu xv))), .second] [(.long (own_size (own_min xu xv) (own_max xu xv))), (.long ((own_size (own_min xu xv) xk) + (own_size (xk + (1 : Int32)) (own_max xu xv))))]))
        refine OGo.st (fun _ kz => XT.lcmp X32.here hx rfl (hb hby at_104) rfl kz) ?_
        show OGo p.tables e below Φ (T32.setTop (mkF m 105 #[.val (.int xu), .val (.int xv), .val (.int xk), .val (.int (own_min xu xv)), .val (.int (own_max xu xv)), .val (.ref b3), .val (.long (own_size (own_min xu xv) (own_max xu xv))), .second, .val (.long (((((own_max xu xv) - (own_min xu xv)).toInt64) &&& (4294967295 : Int64)) + (1 : Int64))), .second, .val (.long (own_size (own_min xu xv) xk)), .second, .val (.long (own_size (xk + (1 : Int32)) (own_max xu xv))), .second] [(.int (XT.cmpL ((own_size (own_min xu xv) xk) + (own_size (xk + (1 : Int32)) (own_max xu xv))) (own_size (own_min xu xv) (own_max xu xv))))]))
        by_cases hc33 : ((own_size (own_min xu xv) xk) + (own_size (xk + (1 : Int32)) (own_max xu xv))) = (own_size (own_min xu xv) (own_max xu xv))
        · refine OGo.st (fun _ kz => XS.ifYes X32.here hx rfl (pc0 := 105) (pc' := 110) rfl (hb hby at_105) rfl (XT.ll_eq_t hc33) (by decide) (by decide) kz) ?_
          show OGo p.tables e below Φ (T32.setTop (mkF m 110 #[.val (.int xu), .val (.int xv), .val (.int xk), .val (.int (own_min xu xv)), .val (.int (own_max xu xv)), .val (.ref b3), .val (.long (own_size (own_min xu xv) (own_max xu xv))), .second, .val (.long (((((own_max xu xv) - (own_min xu xv)).toInt64) &&& (4294967295 : Int64)) + (1 : Int64))), .second, .val (.long (own_size (own_min xu xv) xk)), .second, .val (.long (own_size (xk + (1 : Int32)) (own_max xu xv))), .second] []))
          refine OGo.st (fun _ kz => XS.iconst X32.here hx rfl (hb hby at_110) kz) ?_
          show OGo p.tables e below Φ (T32.setTop (mkF m 111 #[.val (.int xu), .val (.int xv), .val (.int xk), .val (.int (own_min xu xv)), .val (.int (own_max xu xv)), .val (.ref b3), .val (.long (own_size (own_min xu xv) (own_max xu xv))), .second, .val (.long (((((own_max xu xv) - (own_min xu xv)).toInt64) &&& (4294967295 : Int64)) + (1 : Int64))), .second, .val (.long (own_size (own_min xu xv) xk)), .second, .val (.long (own_size (xk + (1 : Int32)) (own_max xu xv))), .second] [(.int (1 : Int32))]))
          refine OGo.fin X32 hlk (v := (some (.int (1 : Int32)))) (fun h => by rw [hret] at h; cases h) (by decide) (by decide) (fun fs hr => X32.ireturnOut hx hret rfl (by simp) (hb hby at_111) hr) fun U eU hF => hΦ _ _ _ ?_ hF
          rw [eU, e32]
          show Q_rm0 Z xu xv xk h0 n0 _ _ _
          exact ⟨rfl, N32⟩
        · refine OGo.st (fun _ kz => XS.ifNo X32.here hx rfl (hb hby at_105) rfl (XT.ll_eq_f hc33) kz) ?_
          show OGo p.tables e below Φ (T32.setTop (mkF m 108 #[.val (.int xu), .val (.int xv), .val (.int xk), .val (.int (own_min xu xv)), .val (.int (own_max xu xv)), .val (.ref b3), .val (.long (own_size (own_min xu xv) (own_max xu xv))), .second, .val (.long (((((own_max xu xv) - (own_min xu xv)).toInt64) &&& (4294967295 : Int64)) + (1 : Int64))), .second, .val (.long (own_size (own_min xu xv) xk)), .second, .val (.long (own_size (xk + (1 : Int32)) (own_max xu xv))), .second] []))
          refine OGo.st (fun _ kz => XS.iconst X32.here hx rfl (hb hby at_108) kz) ?_
          show OGo p.tables e below Φ (T32.setTop (mkF m 109 #[.val (.int xu), .val (.int xv), .val (.int xk), .val (.int (own_min xu xv)), .val (.int (own_max xu xv)), .val (.ref b3), .val (.long (own_size (own_min xu xv) (own_max xu xv))), .second, .val (.long (((((own_max xu xv) - (own_min xu xv)).toInt64) &&& (4294967295 : Int64)) + (1 : Int64))), .second, .val (.long (own_size (own_min xu xv) xk)), .second, .val (.long (own_size (xk + (1 : Int32)) (own_max xu xv))), .second] [(.int (0 : Int32))]))
          exact absurd (own_split _ _ _ hc7 hc8) hc33
      · refine OGo.st (fun _ kz => XS.icmpYes X5.here hx rfl (pc0 := 63) (pc' := 110) rfl (hb hby at_63) rfl (XT.ii_ge_t hc8) (by decide) (by decide) kz) ?_
        show OGo p.tables e below Φ (T5.setTop (mkF m 110 #[.val (.int xu), .val (.int xv), .val (.int xk), .val (.int (own_min xu xv)), .val (.int (own_max xu xv)), .val (.ref b3), .val (.long (own_size (own_min xu xv) (own_max xu xv))), .second, .val (.long (((((own_max xu xv) - (own_min xu xv)).toInt64) &&& (4294967295 : Int64)) + (1 : Int64))), .second, .unset, .unset, .unset, .unset] []))
        refine OGo.st (fun _ kz => XS.iconst X5.here hx rfl (hb hby at_110) kz) ?_
        show OGo p.tables e below Φ (T5.setTop (mkF m 111 #[.val (.int xu), .val (.int xv), .val (.int xk), .val (.int (own_min xu xv)), .val (.int (own_max xu xv)), .val (.ref b3), .val (.long (own_size (own_min xu xv) (own_max xu xv))), .second, .val (.long (((((own_max xu xv) - (own_min xu xv)).toInt64) &&& (4294967295 : Int64)) + (1 : Int64))), .second, .unset, .unset, .unset, .unset] [(.int (1 : Int32))]))
        refine OGo.fin X5 hlk (v := (some (.int (1 : Int32)))) (fun h => by rw [hret] at h; cases h) (by decide) (by decide) (fun fs hr => X5.ireturnOut hx hret rfl (by simp) (hb hby at_111) hr) fun U eU hF => hΦ _ _ _ ?_ hF
        rw [eU, e5]
        show Q_rm0 Z xu xv xk h0 n0 _ _ _
        exact ⟨rfl, N5⟩
  · refine OGo.st (fun _ kz => XS.ifNo X5.here hx rfl (hb hby at_50) rfl (XT.ll_eq_f hc6) kz) ?_
    show OGo p.tables e below Φ (T5.setTop (mkF m 53 #[.val (.int xu), .val (.int xv), .val (.int xk), .val (.int (own_min xu xv)), .val (.int (own_max xu xv)), .val (.ref b3), .val (.long (own_size (own_min xu xv) (own_max xu xv))), .second, .val (.long (((((own_max xu xv) - (own_min xu xv)).toInt64) &&& (4294967295 : Int64)) + (1 : Int64))), .second, .unset, .unset, .unset, .unset] []))
    refine OGo.st (fun _ kz => XS.iconst X5.here hx rfl (hb hby at_53) kz) ?_
    show OGo p.tables e below Φ (T5.setTop (mkF m 54 #[.val (.int xu), .val (.int xv), .val (.int xk), .val (.int (own_min xu xv)), .val (.int (own_max xu xv)), .val (.ref b3), .val (.long (own_size (own_min xu xv) (own_max xu xv))), .second, .val (.long (((((own_max xu xv) - (own_min xu xv)).toInt64) &&& (4294967295 : Int64)) + (1 : Int64))), .second, .unset, .unset, .unset, .unset] [(.int (0 : Int32))]))
    exact absurd (own_exp _ _ (own_le _ _)) hc6

set_option maxRecDepth 65536 in
set_option maxHeartbeats 40000000 in
theorem comes_1 {Post : Tables → Env → Array Value → State → Outcome → State → Prop} (hpost : ∀ tb e args s v u, (limb_1_1.after args s (.returned v) u = true ∧ limb_1_2.after args s (.returned v) u = true ∧ True) → FrameEnd s (.returned v) u (Jvm.fieldLocs frame_1_writes args s ++ Jvm.arrayLocs frame_1_arrays args s ++ Jvm.staticLocs frame_1_statics s) 16 128 → Post tb e args s (.returned v) u) :
    ArmFor flags0 classFile x code maxLocals ret World_1 tables_1 room_1 Calls_1 rest_1 Pre_1 Post := by
  intro l hfl _ _ p e ha hc hk s m args below hf hA hF happ hP
  obtain ⟨hcalls, hrest, hpre⟩ := hP
  obtain ⟨-, -, -, hnamed, -, -, -, hat⟩ := (Spec.applies_iff hf).mp happ
  obtain ⟨hg, hn⟩ := and_e (Cond.before_iff.mp (show (Jvm.Cond.and given_1 narrow_1).before args s = true from hpre))
  obtain ⟨g0, r0⟩ := and_e hg
  obtain ⟨k0, r1⟩ := and_e r0
  obtain ⟨k1, r2⟩ := and_e r1
  have k2 := r2
  obtain ⟨w0, w1, w2, rfl⟩ : ∃ w0 w1 w2 : Value, args = #[w0, w1, w2] := by
    have hs : args.size = 3 := by simpa [Cond.value, given_1] using g0
    obtain ⟨L⟩ := args
    match L, hs with
    | [w0, w1, w2], _ => exact ⟨w0, w1, w2, rfl⟩
  have hw := fun d (hd : d ∈ tables_1) => atoms_spec (ws := Jvm.Cond.code x code maxLocals ret :: tables_1) hat d (List.mem_cons_of_mem _ hd)
  have hfit : Fit s := fun {y c} hc i hi => by
    obtain ⟨ha, rfl⟩ := Array.getElem?_eq_some_iff.mp hc
    have q := List.all_eq_true.mp ((Array.all_eq_true_iff_forall_mem.mp hF) _ (Array.getElem_mem ha)) i (List.mem_range.mpr hi)
    simpa [Array.getElem?_eq_getElem hi] using q
  obtain ⟨i0, ei0⟩ := is_v k0
  obtain rfl : w0 = (.int i0) := Option.some.inj ei0
  obtain ⟨i1, ei1⟩ := is_v k1
  obtain rfl : w1 = (.int i1) := Option.some.inj ei1
  obtain ⟨i2, ei2⟩ := is_v k2
  obtain rfl : w2 = (.int i2) := Option.some.inj ei2
  obtain ⟨n, o, h1, h2, h3, _, L, rfl, ⟨rfl, N⟩, hq⟩ := rm0 l s _ hw tables_1 i0 i1 i2  s.heap s.heap.size (Nat.le_refl _)  p e ha hc hk s m _ below hf ((Spec.applies_iff_loose hf).mp happ).1 ⟨rfl, State.Warmed39.refl s, rfl⟩ trivial
  refine ⟨n, _, h1, h2, h3, hpost _ _ _ _ _ _ ⟨Cond.after_iff.mpr rfl, Cond.after_iff.mpr (eq_i res_at (Term.int_eval (1)) rfl), trivial⟩ ⟨hq.1, hq.2.1, (hq.2.2.sift fun y hy => Or.inr (N y hy)).mono (by decide) (by decide)⟩⟩
theorem main_1_1 : Claimed_1_1 := comes_1 fun _ _ _ _ _ _ h hF => ⟨h.1, hF⟩
theorem main_1_2 : Claimed_1_2 := comes_1 fun _ _ _ _ _ _ h hF => ⟨h.2.1, hF⟩
end Jvm.Pilot.@@N@@
namespace Jvm.Pilot.@@N@@
open Jvm Jvm.ClassFile Sem Op Lib Jvm.Free Jvm.Stand Jvm.Pilot.@@N@@.Jvm.D
/-! MADE BY PROGRAM (witnessworld.py) out of the Statement's table words and the real class files: 11 classes; the members and pool entries that the words name. The judged class is class 1, her method 1. -/
namespace start1
open Jvm.ClassFile
def u (s : String) : CpInfo := .utf8 (stringToUtf16 s)
/-- a pool by its gaps: so many unusable entries, then the entry; so many at the end -/
def gap : Nat → List CpInfo → List CpInfo
  | 0, r => r
  | n + 1, r => .unusable :: gap n r
def poolList (es : List (Nat × CpInfo)) (last : Nat) : List CpInfo := es.foldr (fun e r => gap e.1 (e.2 :: r)) (gap last [])
def pool (es : List (Nat × CpInfo)) (last : Nat) : Array CpInfo := ⟨poolList es last⟩
def fileOf (pool : Array CpInfo) (this : Nat) (attrs : Array Attribute := #[]) (ms : Array MethodInfo := #[]) (fl : Nat := 33) (sup : Nat := 0) (ifs : Array Nat := #[]) (fds : Array FieldInfo := #[]) : ClassFile where
  minorVersion := 0
  majorVersion := 65
  constantPool := pool
  accessFlags := fl
  thisClass := this
  superClass := sup
  interfaces := ifs
  fields := fds
  methods := ms
  attributes := attrs
def plain (name : String) (sup : Option ClassId) : Class where
  name := name
  kind := .ordinary
  loader := none
  accessFlags := 33
  super := sup
  interfaces := #[]
  cf := none
  fields := #[]
  methods := #[]
  instanceTypes := #[]
  staticTypes := #[]
  resolved := #[]
  callSites := []
  init := .initialized
  statics := none
  mirror := none

def pool0 : Array CpInfo := pool [(5, u "<init>"), (0, u "()V"), (1, .class_ 10), (1, u "java/lang/Object")] 113

def k0c0 : Code := { maxStack := 0, maxLocals := 1, code := object_method_1_code, exceptionTable := #[], attributes := #[] }
def k0m0 : Method := { name := "<init>", desc := "()V", sig := { parameters := [], returnType := none }, accessFlags := 1, code := some k0c0 }
/-- java/lang/Object -/
def k0 : Class := { plain "java/lang/Object" none with
  accessFlags := 33
  interfaces := #[]
  cf := some (fileOf pool0 8 #[] #[{ accessFlags := 1, nameIndex := 5, descriptorIndex := 6, attributes := #[] }] 33 0 #[] #[])
  fields := #[]
  methods := #[k0m0]
  instanceTypes := #[]
  staticTypes := #[]
  resolved := Array.replicate 124 none
  statics := none }

def pool1 : Array CpInfo := pool [(2, .class_ 4), (1, u "java/lang/Object"), (0, u "<init>"), (0, u "()V"), (0, .methodref 8 9), (0, .class_ 10), (0, .nameAndType 11 12), (0, u "java/lang/Math"), (0, u "min"), (0, u "(II)I"), (0, .methodref 8 14), (0, .nameAndType 15 12), (0, u "max"), (0, .class_ 17), (0, u "com/example/bowerbird/bowerbird/model/IntRange"), (0, .methodref 16 19), (0, .nameAndType 5 20), (0, u "(II)V"), (0, .methodref 16 22), (0, .nameAndType 23 24), (0, u "size"), (0, u "()J"), (0, .long 4294967295), (1, .class_ 28), (0, u "com/example/bowerbird/bowerbird/model/IntRangeSizePinLaw"), (2, u "law"), (0, u "(III)Z")] 3

def k1m0 : Method := { name := "<init>", desc := "()V", sig := { parameters := [], returnType := none }, accessFlags := 1, code := none }
def k1c1 : Code := { maxStack := 4, maxLocals := 14, code := code, exceptionTable := #[], attributes := #[] }
def k1m1 : Method := { name := "law", desc := "(III)Z", sig := { parameters := [.int, .int, .int], returnType := some .boolean }, accessFlags := 9, code := some k1c1 }
/-- com/example/bowerbird/bowerbird/model/IntRangeSizePinLaw -/
def k1 : Class := { plain "com/example/bowerbird/bowerbird/model/IntRangeSizePinLaw" (some 0) with
  accessFlags := 49
  interfaces := #[]
  cf := some (fileOf pool1 27 #[] #[{ accessFlags := 1, nameIndex := 5, descriptorIndex := 6, attributes := #[] }, { accessFlags := 9, nameIndex := 31, descriptorIndex := 32, attributes := #[] }] 49 2 #[] #[])
  fields := #[]
  methods := #[k1m0, k1m1]
  instanceTypes := #[]
  staticTypes := #[]
  resolved := Array.replicate 36 none
  statics := none }

def pool2 : Array CpInfo := pool [(1, .class_ 2), (0, u "java/lang/Math"), (1, .class_ 6), (1, u "java/lang/Object"), (0, u "<init>"), (0, u "()V"), (89, .class_ 100), (1, u "java/lang/Math$RandomNumberGeneratorHolder"), (71, u "negativeZeroFloatBits"), (0, u "J"), (2, u "negativeZeroDoubleBits"), (21, u "max"), (2, u "min"), (43, u "$assertionsDisabled"), (0, u "Z"), (88, u "(II)I"), (2, u "twoToTheDoubleScaleDown"), (0, u "D"), (4, u "twoToTheDoubleScaleUp"), (9, u "E"), (3, u "PI"), (2, u "TAU"), (2, u "DEGREES_TO_RADIANS"), (0, u "RADIANS_TO_DEGREES")] 94

def k2m0 : Method := { name := "<init>", desc := "()V", sig := { parameters := [], returnType := none }, accessFlags := 2, code := none }
def k2c1 : Code := { maxStack := 2, maxLocals := 2, code := jdk_29_method_65_code, exceptionTable := #[], attributes := #[] }
def k2m1 : Method := { name := "max", desc := "(II)I", sig := { parameters := [.int, .int], returnType := some .int }, accessFlags := 9, code := some k2c1 }
def k2c2 : Code := { maxStack := 2, maxLocals := 2, code := jdk_29_method_69_code, exceptionTable := #[], attributes := #[] }
def k2m2 : Method := { name := "min", desc := "(II)I", sig := { parameters := [.int, .int], returnType := some .int }, accessFlags := 9, code := some k2c2 }
/-- java/lang/Math -/
def k2 : Class := { plain "java/lang/Math" (some 0) with
  accessFlags := 49
  interfaces := #[]
  cf := some (fileOf pool2 1 #[.nestMembers #[98]] #[{ accessFlags := 2, nameIndex := 7, descriptorIndex := 8, attributes := #[] }, { accessFlags := 9, nameIndex := 198, descriptorIndex := 335, attributes := #[] }, { accessFlags := 9, nameIndex := 201, descriptorIndex := 335, attributes := #[] }] 49 4 #[] #[{ accessFlags := 25, nameIndex := 354, descriptorIndex := 339, attributes := #[] }, { accessFlags := 25, nameIndex := 358, descriptorIndex := 339, attributes := #[] }, { accessFlags := 25, nameIndex := 361, descriptorIndex := 339, attributes := #[] }, { accessFlags := 26, nameIndex := 364, descriptorIndex := 339, attributes := #[] }, { accessFlags := 26, nameIndex := 365, descriptorIndex := 339, attributes := #[] }, { accessFlags := 26, nameIndex := 172, descriptorIndex := 173, attributes := #[] }, { accessFlags := 26, nameIndex := 176, descriptorIndex := 173, attributes := #[] }, { accessFlags := 8, nameIndex := 344, descriptorIndex := 339, attributes := #[] }, { accessFlags := 8, nameIndex := 338, descriptorIndex := 339, attributes := #[] }, { accessFlags := 4120, nameIndex := 245, descriptorIndex := 246, attributes := #[] }])
  fields := #[{ name := "E", type := .double, accessFlags := 25, slot := 0, constantValue := 0 }, { name := "PI", type := .double, accessFlags := 25, slot := 1, constantValue := 0 }, { name := "TAU", type := .double, accessFlags := 25, slot := 2, constantValue := 0 }, { name := "DEGREES_TO_RADIANS", type := .double, accessFlags := 26, slot := 3, constantValue := 0 }, { name := "RADIANS_TO_DEGREES", type := .double, accessFlags := 26, slot := 4, constantValue := 0 }, { name := "negativeZeroFloatBits", type := .long, accessFlags := 26, slot := 5, constantValue := 0 }, { name := "negativeZeroDoubleBits", type := .long, accessFlags := 26, slot := 6, constantValue := 0 }, { name := "twoToTheDoubleScaleUp", type := .double, accessFlags := 8, slot := 7, constantValue := 0 }, { name := "twoToTheDoubleScaleDown", type := .double, accessFlags := 8, slot := 8, constantValue := 0 }, { name := "$assertionsDisabled", type := .boolean, accessFlags := 4120, slot := 9, constantValue := 0 }]
  methods := #[k2m0, k2m1, k2m2]
  instanceTypes := #[]
  staticTypes := #[.double, .double, .double, .double, .double, .long, .long, .double, .double, .boolean]
  resolved := Array.replicate 460 none
  statics := none }

def pool3 : Array CpInfo := pool [(1, .methodref 2 3), (0, .class_ 4), (0, .nameAndType 5 6), (0, u "java/lang/Object"), (0, u "<init>"), (0, u "()V"), (0, .class_ 8), (0, u "java/lang/Record")] 13

def k3c0 : Code := { maxStack := 1, maxLocals := 1, code := jdk_30_method_1_code, exceptionTable := #[], attributes := #[] }
def k3m0 : Method := { name := "<init>", desc := "()V", sig := { parameters := [], returnType := none }, accessFlags := 4, code := some k3c0 }
/-- java/lang/Record -/
def k3 : Class := { plain "java/lang/Record" (some 0) with
  accessFlags := 1057
  interfaces := #[]
  cf := some (fileOf pool3 7 #[] #[{ accessFlags := 4, nameIndex := 5, descriptorIndex := 6, attributes := #[] }] 1057 2 #[] #[])
  fields := #[]
  methods := #[k3m0]
  instanceTypes := #[]
  staticTypes := #[]
  resolved := Array.replicate 22 none
  statics := none }

def pool4 : Array CpInfo := pool [(1, .methodref 2 3), (0, .class_ 4), (0, .nameAndType 5 6), (0, u "java/lang/Record"), (0, u "<init>"), (0, u "()V"), (0, .fieldref 8 9), (0, .class_ 10), (0, .nameAndType 11 12), (0, u "com/example/bowerbird/bowerbird/model/IntRange"), (0, u "min"), (0, u "I"), (0, .fieldref 8 14), (0, .nameAndType 15 12), (0, u "max"), (25, u "(II)V"), (17, u "size"), (0, u "()J")] 23

def k4c0 : Code := { maxStack := 2, maxLocals := 3, code := prog_55_method_1_code, exceptionTable := #[], attributes := #[] }
def k4m0 : Method := { name := "<init>", desc := "(II)V", sig := { parameters := [.int, .int], returnType := none }, accessFlags := 1, code := some k4c0 }
def k4c1 : Code := { maxStack := 4, maxLocals := 1, code := prog_55_method_3_code, exceptionTable := #[], attributes := #[] }
def k4m1 : Method := { name := "size", desc := "()J", sig := { parameters := [], returnType := some .long }, accessFlags := 1, code := some k4c1 }
/-- com/example/bowerbird/bowerbird/model/IntRange -/
def k4 : Class := { plain "com/example/bowerbird/bowerbird/model/IntRange" (some 3) with
  accessFlags := 49
  interfaces := #[]
  cf := some (fileOf pool4 8 #[] #[{ accessFlags := 1, nameIndex := 5, descriptorIndex := 41, attributes := #[] }, { accessFlags := 1, nameIndex := 59, descriptorIndex := 60, attributes := #[] }] 49 2 #[] #[{ accessFlags := 18, nameIndex := 11, descriptorIndex := 12, attributes := #[] }, { accessFlags := 18, nameIndex := 15, descriptorIndex := 12, attributes := #[] }])
  fields := #[{ name := "min", type := .int, accessFlags := 18, slot := 0, constantValue := 0 }, { name := "max", type := .int, accessFlags := 18, slot := 1, constantValue := 0 }]
  methods := #[k4m0, k4m1]
  instanceTypes := #[.int, .int]
  staticTypes := #[]
  resolved := Array.replicate 84 none
  statics := none }

def pool5 : Array CpInfo := pool [(1, u "java/lang/Cloneable"), (0, .class_ 1), (0, u "java/lang/Object"), (0, .class_ 3)] 3

/-- java/lang/Cloneable -/
def k5 : Class := { plain "java/lang/Cloneable" (some 0) with
  accessFlags := 1537
  interfaces := #[]
  cf := some (fileOf pool5 2 #[] #[] 1537 4 #[] #[])
  fields := #[]
  methods := #[]
  instanceTypes := #[]
  staticTypes := #[]
  resolved := Array.replicate 8 none
  statics := none }

def pool6 : Array CpInfo := pool [(1, u "java/io/Serializable"), (0, .class_ 1), (0, u "java/lang/Object"), (0, .class_ 3)] 3

/-- java/io/Serializable -/
def k6 : Class := { plain "java/io/Serializable" (some 0) with
  accessFlags := 1537
  interfaces := #[]
  cf := some (fileOf pool6 2 #[] #[] 1537 4 #[] #[])
  fields := #[]
  methods := #[]
  instanceTypes := #[]
  staticTypes := #[]
  resolved := Array.replicate 8 none
  statics := none }

/-- the primitive byte -/
def k7 : Class := { plain "byte" none with kind := .primitive 'B', accessFlags := 0x411 }
/-- [B -/
def k8 : Class := { plain "[B" (some 0) with kind := .array 7 .byte, interfaces := #[5, 6], accessFlags := 1041 }

/-- the primitive int -/
def k9 : Class := { plain "int" none with kind := .primitive 'I', accessFlags := 0x411 }
/-- [I -/
def k10 : Class := { plain "[I" (some 0) with kind := .array 9 .int, interfaces := #[5, 6], accessFlags := 1041 }

def heap : Heap := #[]
def classes : Array Class := #[k0, k1, k2, k3, k4, k5, k6, k7, k8, k9, k10]
def interned : List (Array UInt16 × Addr) := []
def slotsUsed : Nat := 0
def theMethod : MethodId := ⟨1, 1⟩
def args0 : Array Value := #[.int 5, .int 7, .int 6]
def aboutOver (below : List Frame) : State where
  vm := { classes := classes, interned := interned.toArray }
  heap := heap
  slotsUsed := slotsUsed
  threads := #[{ frames := .invoking theMethod args0 :: below }]
def below0 : List Frame := [.native { method := ⟨0, 0⟩, args := #[] }]
def about1 : State := aboutOver below0
def p0 : Program := .bare "" "" ""
def e0 : Env := launch0.env 0 0 0
theorem w_frames : about1.frames = Frame.invoking theMethod args0 :: below0 := rfl
set_option maxRecDepth 65536 in
theorem w_args : argsFit about1.vm theMethod args0 = true := by decide +kernel
set_option maxRecDepth 65536 in
theorem w_heap : heapFits about1 = true := by decide +kernel
set_option maxRecDepth 65536 in
theorem w_runnable : about1.curStatus? = some .runnable := by decide +kernel
set_option maxRecDepth 65536 in
theorem w_alone : about1.alone = true := by decide +kernel
set_option maxRecDepth 65536 in
theorem w_named : about1.methodNamed? x = some theMethod := by decide +kernel
set_option maxRecDepth 65536 in
theorem w_hears : about1.hears theMethod below0 = true := by decide +kernel
set_option maxRecDepth 65536 in
theorem w_ripe : about1.ripe theMethod args0 below0 = true := by decide +kernel
theorem w_running : about1.status = .running := rfl
set_option maxRecDepth 65536 in
theorem w_room : about1.hasRoom e0.platform room_1 = true :=
  launch0.hasRoom_least _ room_1 (by decide +kernel) (by decide +kernel) (by decide +kernel) (by decide +kernel) (by decide +kernel) (by decide +kernel)
theorem allAtoms_all (ts : List Jvm.Cond) (a : Array Jvm.Value) (st : Jvm.State) : (allAtoms ts).before a st = ts.all (fun c => c.before a st) := by
  induction ts with
  | nil => rfl
  | cons c t ih =>
    show (Jvm.Cond.and c (allAtoms t)).before a st = _
    rw [Jvm.Cond.before_and, ih, List.all_cons]
def words1 : List Jvm.Cond := Jvm.Cond.code x code maxLocals ret :: tables_1
/-- a 'code' word, met by the world's own term for the bytes: nothing is compared byte by byte -/
theorem code_word {y : MethodName} {bytes : ByteArray} {mx : Nat} {rt : Option FieldType} {a : Array Value} {s : State} {m : MethodId} {meth : Method} {c : Code} (h1 : s.methodNamed? y = some m) (h2 : s.vm.method? m = some meth) (h3 : meth.code = some c) (h4 : c.code = bytes)
    (h5 : (c.maxLocals == mx && c.exceptionTable.isEmpty && decide (c.maxStack ≤ mostOperands) && decide (meth.sig.returnType = rt) && !meth.locks && decide (parseMethodDescriptor y.desc = some meth.sig)) = true) : (Jvm.Cond.code y bytes mx rt).before a s = true := by
  simp only [Bool.and_eq_true, beq_iff_eq, Bool.not_eq_true', decide_eq_true_eq] at h5
  obtain ⟨⟨⟨⟨⟨g1, g2⟩, g3⟩, g4⟩, g5⟩, g6⟩ := h5
  simp [Cond.before, Cond.holds, Cond.value, h1, h2, h3, h4, g1, g2, g3, g4, g5, g6]
def isCode : Jvm.Cond → Bool
  | .code _ _ _ _ => true
  | _ => false
theorem all_split {L : List Jvm.Cond} {P : Jvm.Cond → Bool} (h1 : L.all (fun c => isCode c || P c) = true) (h2 : ∀ c ∈ L.filter isCode, P c = true) : L.all P = true := by
  refine List.all_eq_true.mpr fun c hc => ?_
  have h := List.all_eq_true.mp h1 c hc
  rcases Bool.eq_false_or_eq_true (isCode c) with hi | hi
  · exact h2 c (List.mem_filter.mpr ⟨hc, hi⟩)
  · simpa [hi] using h
set_option maxRecDepth 65536 in
theorem w_c0 : (Jvm.Cond.code x code maxLocals ret).before args0 about1 = true := code_word (m := ⟨1, 1⟩) (meth := k1m1) (c := k1c1) (by decide +kernel) rfl rfl rfl (by decide +kernel)
set_option maxRecDepth 65536 in
theorem w_c1 : (Jvm.Cond.code ({ cls := "java/lang/Math", name := "min", desc := "(II)I" } : Jvm.MethodName) jdk_29_method_69_code (2 : Nat) (Option.some Jvm.ClassFile.FieldType.int)).before args0 about1 = true := code_word (m := ⟨2, 2⟩) (meth := k2m2) (c := k2c2) (by decide +kernel) rfl rfl rfl (by decide +kernel)
set_option maxRecDepth 65536 in
theorem w_c2 : (Jvm.Cond.code ({ cls := "java/lang/Math", name := "max", desc := "(II)I" } : Jvm.MethodName) jdk_29_method_65_code (2 : Nat) (Option.some Jvm.ClassFile.FieldType.int)).before args0 about1 = true := code_word (m := ⟨2, 1⟩) (meth := k2m1) (c := k2c1) (by decide +kernel) rfl rfl rfl (by decide +kernel)
set_option maxRecDepth 65536 in
theorem w_c3 : (Jvm.Cond.code ({ cls := "com/example/bowerbird/bowerbird/model/IntRange", name := "<init>", desc := "(II)V" } : Jvm.MethodName) prog_55_method_1_code (3 : Nat) (Option.none : Option Jvm.ClassFile.FieldType)).before args0 about1 = true := code_word (m := ⟨4, 0⟩) (meth := k4m0) (c := k4c0) (by decide +kernel) rfl rfl rfl (by decide +kernel)
set_option maxRecDepth 65536 in
theorem w_c4 : (Jvm.Cond.code ({ cls := "java/lang/Record", name := "<init>", desc := "()V" } : Jvm.MethodName) jdk_30_method_1_code (1 : Nat) (Option.none : Option Jvm.ClassFile.FieldType)).before args0 about1 = true := code_word (m := ⟨3, 0⟩) (meth := k3m0) (c := k3c0) (by decide +kernel) rfl rfl rfl (by decide +kernel)
set_option maxRecDepth 65536 in
theorem w_c5 : (Jvm.Cond.code ({ cls := "java/lang/Object", name := "<init>", desc := "()V" } : Jvm.MethodName) object_method_1_code (1 : Nat) (Option.none : Option Jvm.ClassFile.FieldType)).before args0 about1 = true := code_word (m := ⟨0, 0⟩) (meth := k0m0) (c := k0c0) (by decide +kernel) rfl rfl rfl (by decide +kernel)
set_option maxRecDepth 65536 in
theorem w_c6 : (Jvm.Cond.code ({ cls := "com/example/bowerbird/bowerbird/model/IntRange", name := "size", desc := "()J" } : Jvm.MethodName) prog_55_method_3_code (1 : Nat) (Option.some Jvm.ClassFile.FieldType.long)).before args0 about1 = true := code_word (m := ⟨4, 1⟩) (meth := k4m1) (c := k4c1) (by decide +kernel) rfl rfl rfl (by decide +kernel)
def codes1 : List Jvm.Cond := [Jvm.Cond.code x code maxLocals ret, Jvm.Cond.code ({ cls := "java/lang/Math", name := "min", desc := "(II)I" } : Jvm.MethodName) jdk_29_method_69_code (2 : Nat) (Option.some Jvm.ClassFile.FieldType.int), Jvm.Cond.code ({ cls := "java/lang/Math", name := "max", desc := "(II)I" } : Jvm.MethodName) jdk_29_method_65_code (2 : Nat) (Option.some Jvm.ClassFile.FieldType.int), Jvm.Cond.code ({ cls := "com/example/bowerbird/bowerbird/model/IntRange", name := "<init>", desc := "(II)V" } : Jvm.MethodName) prog_55_method_1_code (3 : Nat) (Option.none : Option Jvm.ClassFile.FieldType), Jvm.Cond.code ({ cls := "java/lang/Record", name := "<init>", desc := "()V" } : Jvm.MethodName) jdk_30_method_1_code (1 : Nat) (Option.none : Option Jvm.ClassFile.FieldType), Jvm.Cond.code ({ cls := "java/lang/Object", name := "<init>", desc := "()V" } : Jvm.MethodName) object_method_1_code (1 : Nat) (Option.none : Option Jvm.ClassFile.FieldType), Jvm.Cond.code ({ cls := "com/example/bowerbird/bowerbird/model/IntRange", name := "size", desc := "()J" } : Jvm.MethodName) prog_55_method_3_code (1 : Nat) (Option.some Jvm.ClassFile.FieldType.long)]
set_option maxRecDepth 65536 in
theorem codes_eq : words1.filter isCode = codes1 := rfl
theorem w_codes : ∀ c ∈ words1.filter isCode, c.before args0 about1 = true := by
  rw [codes_eq]
  intro c hc
  simp only [codes1, List.mem_cons, List.not_mem_nil, or_false] at hc
  rcases hc with rfl | rfl | rfl | rfl | rfl | rfl | rfl
  · exact w_c0
  · exact w_c1
  · exact w_c2
  · exact w_c3
  · exact w_c4
  · exact w_c5
  · exact w_c6
set_option maxRecDepth 65536 in
theorem w_t1 : (words1.take 24).all (fun c => isCode c || c.before args0 about1) = true := by decide +kernel
set_option maxRecDepth 65536 in
theorem w_t2 : (words1.drop 24).all (fun c => isCode c || c.before args0 about1) = true := by decide +kernel
theorem w_tables : (allAtoms (Jvm.Cond.code x code maxLocals ret :: tables_1)).before args0 about1 = true := by
  rw [allAtoms_all]
  show words1.all (fun c => c.before args0 about1) = true
  refine all_split ?_ w_codes
  rw [← List.take_append_drop 24 words1, List.all_append, w_t1, w_t2]
  rfl
set_option maxRecDepth 65536 in
theorem w_case : (Jvm.Cond.and given_1 narrow_1).before args0 about1 = true := by decide +kernel
theorem w_applies : (headSpec (Jvm.Cond.code x code maxLocals ret :: tables_1) room_1).applies x e0.platform about1 = true :=
  (Spec.applies_iff w_frames).mpr ⟨w_running, w_runnable, w_alone, w_named, w_hears, w_ripe, w_room, w_tables⟩
theorem atStart : AtStart classFile x code maxLocals ret World_1 tables_1 room_1 Calls_1 rest_1 Pre_1 launch0 p0 e0 about1 theMethod args0 below0 :=
  ⟨lists_1, trivial, launch0.admits_env _ _ _, launch0.least_env, fairChoices_fair.cas, fairChoices_fair.clock, w_frames, w_args, w_heap, w_applies, trivial, trivial, w_case⟩
end start1
theorem witness_1 : WitnessClaimed_1 := ⟨start1.p0, start1.e0, start1.about1, start1.theMethod, start1.args0, start1.below0, start1.atStart⟩
end Jvm.Pilot.@@N@@
