import JvmDerived
import JvmDerived.Pilot.@@N@@Statement
import JvmDerived.Pilot.@@N@@Code
set_option linter.unusedVariables false
set_option linter.unusedSimpArgs false
namespace Jvm.Pilot.@@N@@
open Jvm Jvm.ClassFile Sem Op Lib Jvm.Free Jvm.Stand Jvm.LawKit Jvm.RoadKit Bundle Jvm.Pilot.@@N@@.Jvm.D
section Own
variable {p : Program} {l : Launch} {e : Env} {R : Room} {s : State} {m : MethodId} {args : Array Value} {below : List Frame} {meth : Method} {c : Code} {T : State} {locs : List Loc} {cells slots : Nat} {Z : State} {a0 : Array Value} {h : Heap} {Φ : Outcome → State → Prop}
/-- what is left of a walk: from S the invocation ends as Φ says -/
def OGo (tb : Tables) (e : Env) (below : List Frame) (Φ : Outcome → State → Prop) (S : State) : Prop := ∃ s₂ o, Steps tb e below S s₂ ∧ s₂.status = .running ∧ Ended s₂ below o ∧ Φ o s₂
theorem OGo.st {tb : Tables} {S S' : State} (h : ∀ t, Steps tb e below S' t → Steps tb e below S t) (g : OGo tb e below Φ S') : OGo tb e below Φ S := by
  obtain ⟨s₂, o, h1, r⟩ := g
  exact ⟨s₂, o, h _ h1, r⟩
theorem OGo.fin (X : Stand p l e R s m args below meth c T locs cells slots) (hlk : meth.locks = false) {v : Option Value} (hv : meth.sig.returnType = none → v = none) {g : JFrame} {k n : Nat} (hk : cells ≤ k) (hn : slots ≤ n)
    (st : ∀ fs, (∀ (f : JFrame) (acts : List Action), f.method = m → f.locked = none → f.entered = [] → (doReturn e (T.setTop f) acts v).1 = T.setFrames fs) → Steps p.tables e below (T.setTop g) (T.setFrames fs))
    (hq : ∀ U, U.heap = T.heap → FrameEnd s (.returned v) U locs k n → Φ (.returned v) U) : OGo p.tables e below Φ (T.setTop g) := by
  obtain ⟨fs, hr, hrun, hended, hW, hsame⟩ := X.leave (v := v) hv hlk
  exact ⟨_, _, st fs hr, hrun, hended, hq _ rfl ⟨⟨_, rfl⟩, hW, hsame.mono hk hn⟩⟩
/-- a contract: what every body's theorem says -/
abbrev OCon (l : Launch) (Z : State) (y : MethodName) (bytes : ByteArray) (maxL : Nat) (ret : Option FieldType) (ws : List Jvm.Cond) (rm : Room) (as' : Array Value) (h0 : Heap) (Q : Option Value → Heap → List Loc → Prop) : Prop :=
  MetFree l y (head1 (Jvm.Cond.code y bytes maxL ret :: ws) rm) (fun a U => a = as' ∧ Z.Warmed39 U.vm ∧ U.heap = h0) (fun _ _ _ _ _ => True) (fun _ U o U' => ∃ v L, o = .returned v ∧ Q v U'.heap L ∧ FrameEnd U o U' L rm.cells rm.slots)
theorem OCon.of {y : MethodName} {bytes : ByteArray} {maxL : Nat} {ret : Option FieldType} {ws : List Jvm.Cond} {rm : Room} {as' : Array Value} {h0 : Heap} {Q : Option Value → Heap → List Loc → Prop} (hpl : plainFor y = true)
    (H : ∀ (p : Program) (e : Env) (s : State) (m : MethodId) (below : List Frame) (meth : Method) (c : Code) (s₁ : State) (Φ : Outcome → State → Prop), Stand p l e rm s m as' below meth c s₁ [] 0 0 → p.tables.exec = Jvm.exec → c.code = bytes → c.maxLocals = maxL → s.vm.findClass y.cls = some m.cls → meth.name = y.name → meth.sig.returnType = ret → meth.locks = false → Z.Warmed39 s.vm → s₁.heap = h0 →
      (∀ v L U, Q v U.heap L → FrameEnd s (.returned v) U L rm.cells rm.slots → Φ (.returned v) U) → OGo p.tables e below Φ (s₁.setTop (entryFrame m as' maxL))) :
    OCon l Z y bytes maxL ret ws rm as' h0 Q := by
  refine MetFree.of_bodySF hpl hisR ?_
  intro p e s m args below meth c s₁ Bd hml0 hP hK
  obtain ⟨rfl, hZ, hh⟩ := hP
  have e0 : s₁.heap = h0 := by rw [← hh, Bd.state]; rfl
  exact H p e s m below meth c s₁ _ (Stand.of_body Bd) Bd.exec Bd.bytes hml0 (findClass_of_methodNamed Bd.named) (name_of_methodNamed Bd.named Bd.method).1 Bd.returns Bd.notSynchronized hZ e0 (fun v L U hq hf => ⟨v, L, rfl, hq, hf⟩)
theorem own_callSt (X : Stand p l e R s m args below meth c T locs cells slots) (hx : p.tables.exec = Jvm.exec) (hZ : Z.Warmed39 s.vm) {own : String} {index : Nat} {y : MethodName} {bytes : ByteArray} {maxL : Nat} {ret : Option FieldType} {rm : Room} {as' : Array Value} {Q : Option Value → Heap → List Loc → Prop}
    (hown : s.vm.findClass own = some m.cls) (w1 : (Jvm.Cond.methodLink own index y).before a0 Z = true) (w2 : (Jvm.Cond.static y).before a0 Z = true) (w3 : (Jvm.Cond.initialized y.cls).before a0 Z = true) (w4 : (Jvm.Cond.code y bytes maxL ret).before a0 Z = true) (hy : y.cls ≠ "java/lang/invoke/MethodHandle" ∧ y.cls ≠ "java/lang/invoke/VarHandle")
    (hM : OCon l Z y bytes maxL ret [] rm as' h Q) (eT : T.heap = h) {W : Nat} (hf : rm.frames + 1 ≤ R.frames) (hl : W + (maxL + 11) + rm.locals ≤ R.locals) (hcl : cells + rm.cells ≤ R.cells) (hsl : slots + rm.slots ≤ R.slots)
    {pc : Nat} {ls : Array Slot} {stk : List Value} (hsize : ls.size = c.maxLocals) {argsL rest : List Value} (hlen : ∀ sig, parseMethodDescriptor y.desc = some sig → argsL.length = sig.parameters.length) (has : argsL.toArray = as') (hstack : stk = argsL.reverse ++ rest) (hW : (rest.map fun v => v.category).sum ≤ W)
    (hd : decode c.code pc = .ok (.invokestatic index, 3)) :
    ∃ v T' L, Stand p l e R s m args below meth c T' (locs ++ L) (cells + rm.cells) (slots + rm.slots) ∧ Q v T'.heap L ∧ ∀ target, Steps p.tables e below (T'.setTop (mkF m (pc + 3) ls (v.toList ++ rest))) target → Steps p.tables e below (T.setTop (mkF m pc ls stk)) target := by
  subst has
  obtain ⟨v, vm₁, ⟨T', L', k', n'⟩, -, X', ⟨L, hQ, l1, y1, z1⟩, st⟩ := Jvm.LawKit.callS X hx (y := y) hown (mvT hZ w1) (mvT hZ w2) (mvT hZ w3) (mvT hZ w4) hy (backOf (W := W) hM hZ w4 w3 hf hl) (g := mkF m pc ls stk) rfl hsize (argsL := argsL) (rest := rest) hlen hstack (by simpa using hW) hd (fun _ _ => ⟨rfl, eT, hcl, hsl⟩)
  dsimp only [Pt.U, Pt.locs, Pt.cells, Pt.slots] at X' l1 y1 z1 st hQ
  subst l1 y1 z1
  exact ⟨v, T', L, X', hQ, st⟩
theorem own_callSp (X : Stand p l e R s m args below meth c T locs cells slots) (hx : p.tables.exec = Jvm.exec) (hZ : Z.Warmed39 s.vm) {own : String} {index : Nat} {y : MethodName} {bytes : ByteArray} {maxL : Nat} {rm : Room} {as' : Array Value} {Q : Option Value → Heap → List Loc → Prop}
    (hy1 : y.name = "<init>") (hown : s.vm.findClass own = some m.cls) (w1 : (Jvm.Cond.methodLink own index y).before a0 Z = true) (w2 : (Jvm.Cond.instanceMethod y).before a0 Z = true) (w3 : (Jvm.Cond.initialized y.cls).before a0 Z = true) (w4 : (Jvm.Cond.code y bytes maxL none).before a0 Z = true) (hy : y.cls ≠ "java/lang/invoke/MethodHandle" ∧ y.cls ≠ "java/lang/invoke/VarHandle")
    (hM : OCon l Z y bytes maxL none [] rm as' h Q) (eT : T.heap = h) {W : Nat} (hf : rm.frames + 1 ≤ R.frames) (hl : W + (maxL + 11) + rm.locals ≤ R.locals) (hcl : cells + rm.cells ≤ R.cells) (hsl : slots + rm.slots ≤ R.slots)
    {pc : Nat} {ls : Array Slot} {stk : List Value} (hsize : ls.size = c.maxLocals) {a : Addr} {argsL rest : List Value} (hlen : ∀ sig, parseMethodDescriptor y.desc = some sig → argsL.length = sig.parameters.length) (has : (.ref a :: argsL).toArray = as') (hstack : stk = argsL.reverse ++ .ref a :: rest) (hW : (rest.map fun v => v.category).sum ≤ W)
    (hd : decode c.code pc = .ok (.invokespecial index, 3)) :
    ∃ v T' L, Stand p l e R s m args below meth c T' (locs ++ L) (cells + rm.cells) (slots + rm.slots) ∧ Q v T'.heap L ∧ ∀ target, Steps p.tables e below (T'.setTop (mkF m (pc + 3) ls (v.toList ++ rest))) target → Steps p.tables e below (T.setTop (mkF m pc ls stk)) target := by
  subst has
  obtain ⟨v, vm₁, ⟨T', L', k', n'⟩, -, X', ⟨L, hQ, l1, y1, z1⟩, st⟩ := X.specialBack hx (y := y) hy1 hown (mvT hZ w1) (mvT hZ w2) (mvT hZ w4) hy (backOf (W := W) hM hZ w4 w3 hf hl) (g := mkF m pc ls stk) rfl hsize (Steps.refl _) (a := a) (argsL := argsL) (rest := rest) hlen hstack (by simpa using hW) hd (fun _ _ => ⟨rfl, eT, hcl, hsl⟩)
  dsimp only [Pt.U, Pt.locs, Pt.cells, Pt.slots] at X' l1 y1 z1 st hQ
  subst l1 y1 z1
  exact ⟨v, T', L, X', hQ, fun t k => st.trans k⟩
theorem own_callVi (X : Stand p l e R s m args below meth c T locs cells slots) (hx : p.tables.exec = Jvm.exec) (hZ : Z.Warmed39 s.vm) {own C : String} {index : Nat} {y z : MethodName} {bytes : ByteArray} {maxL : Nat} {ret : Option FieldType} {rm : Room} {as' : Array Value} {Q : Option Value → Heap → List Loc → Prop}
    (hown : s.vm.findClass own = some m.cls) (w1 : (Jvm.Cond.methodLink own index y).before a0 Z = true) (w2 : (Jvm.Cond.declares y).before a0 Z = true) (nf : NotFace s y) (w3 : (Jvm.Cond.selects C y z).before a0 Z = true) (w4 : (Jvm.Cond.instanceMethod z).before a0 Z = true) (w5 : (Jvm.Cond.initialized z.cls).before a0 Z = true) (w6 : (Jvm.Cond.code z bytes maxL ret).before a0 Z = true) (hy : y.cls ≠ "java/lang/invoke/MethodHandle" ∧ y.cls ≠ "java/lang/invoke/VarHandle")
    (hM : OCon l Z z bytes maxL ret [] rm as' h Q) (eT : T.heap = h) {W : Nat} (hf : rm.frames + 1 ≤ R.frames) (hl : W + (maxL + 11) + rm.locals ≤ R.locals) (hcl : cells + rm.cells ≤ R.cells) (hsl : slots + rm.slots ≤ R.slots) {a : Addr} (E : Exa Z h a C)
    {pc : Nat} {ls : Array Slot} {stk : List Value} (hsize : ls.size = c.maxLocals) {argsL rest : List Value} (hlen : ∀ sig, parseMethodDescriptor y.desc = some sig → argsL.length = sig.parameters.length) (has : (.ref a :: argsL).toArray = as') (hstack : stk = argsL.reverse ++ .ref a :: rest) (hW : (rest.map fun v => v.category).sum ≤ W)
    (hd : decode c.code pc = .ok (.invokevirtual index, 3)) :
    ∃ v T' L, Stand p l e R s m args below meth c T' (locs ++ L) (cells + rm.cells) (slots + rm.slots) ∧ Q v T'.heap L ∧ ∀ target, Steps p.tables e below (T'.setTop (mkF m (pc + 3) ls (v.toList ++ rest))) target → Steps p.tables e below (T.setTop (mkF m pc ls stk)) target := by
  subst has
  obtain ⟨cq, kq, qa, qb, qc⟩ := isOf hZ eT E
  obtain ⟨v, vm₁, ⟨T', L', k', n'⟩, -, X', ⟨L, hQ, l1, y1, z1⟩, st⟩ := X.virtualBack hx (y := y) (z := z) hown (mvT hZ w1) (mvT hZ w2) nf (mvT hZ w3) (mvT hZ w4) hy (backOf (W := W) hM hZ w6 w5 hf hl) qa qc (g := mkF m pc ls stk) rfl hsize (Steps.refl _) (argsL := argsL) (rest := rest) hlen hstack (by simpa using hW) hd (fun _ _ => ⟨rfl, eT, hcl, hsl⟩)
  dsimp only [Pt.U, Pt.locs, Pt.cells, Pt.slots] at X' l1 y1 z1 st hQ
  subst l1 y1 z1
  exact ⟨v, T', L, X', hQ, fun t k => st.trans k⟩
theorem own_lremM {g : JFrame} {target : State} (X : Stand p l e R s m args below meth c T locs cells slots) (hx : p.tables.exec = Jvm.exec) (hg : g.method = m) {x y : Int64} {rest : List Value} (hd : decode c.code g.pc = .ok (.lrem, 1)) (hs : g.stack = .long y :: .long x :: rest) (hy : y ≠ 0)
    (hr : Steps p.tables e below (T.setTop { g with pc := g.pc + 1, stack := .long (x % y) :: rest }) target) : Steps p.tables e below (T.setTop g) target :=
  XT.lrem X.here hx hg hd hs hy (by rw [lrem_mod]; exact hr)
theorem own_nz {x : Int32} (q : x = 0 ∨ x = 1) : narrow .boolean (.int x) = .int x := by rcases q with rfl | rfl <;> rfl
theorem own_fz {x : Int32} (q : x = 0 ∨ x = 1) : fits .boolean (.int x) = true := by rcases q with rfl | rfl <;> rfl
theorem own_irr (x : Int32) : ¬ x < x := fun q => absurd (Int32.lt_iff_toInt_lt.mp q) (Int.lt_irrefl _)
theorem own_irrL (x : Int64) : ¬ x < x := fun q => absurd (Int64.lt_iff_toInt_lt.mp q) (Int.lt_irrefl _)
/-- a small int is one of the first n -/
theorem own_small {n : Nat} (hn : n < 2 ^ 31) (x : Int32) (h0 : ¬ x < 0) (h1 : x.toInt < n) : ∃ k : Fin n, x = Int32.ofInt k.val := by
  have h2 : 0 ≤ x.toInt := by
    rcases Int.lt_or_le x.toInt 0 with q | q
    · exact absurd (Int32.lt_iff_toInt_lt.mpr q) h0
    · exact q
  refine ⟨⟨x.toInt.toNat, by omega⟩, ?_⟩
  rw [Int.toNat_of_nonneg h2, Int32.ofInt_toInt]
end Own
theorem ow0 {Z : State} {a0 : Array Value} (hw : ∀ d ∈ tables_1, d.before a0 Z = true) : (Jvm.Cond.classLink "com/example/crossweave/crossweave/TimingLineSecondsPinLaw" (7 : Nat) "com/example/crossweave/crossweave/TimingLine").before a0 Z = true := hw _ (List.mem_of_getElem? (i := 0) rfl)
theorem ow1 {Z : State} {a0 : Array Value} (hw : ∀ d ∈ tables_1, d.before a0 Z = true) : (Jvm.Cond.instantiable "com/example/crossweave/crossweave/TimingLine" (2 : Nat)).before a0 Z = true := hw _ (List.mem_of_getElem? (i := 1) rfl)
theorem ow2 {Z : State} {a0 : Array Value} (hw : ∀ d ∈ tables_1, d.before a0 Z = true) : (Jvm.Cond.initialized "com/example/crossweave/crossweave/TimingLine").before a0 Z = true := hw _ (List.mem_of_getElem? (i := 2) rfl)
theorem ow3 {Z : State} {a0 : Array Value} (hw : ∀ d ∈ tables_1, d.before a0 Z = true) : (Jvm.Cond.methodLink "com/example/crossweave/crossweave/TimingLineSecondsPinLaw" (9 : Nat) ({ cls := "com/example/crossweave/crossweave/TimingLine", name := "<init>", desc := "(DD)V" } : Jvm.MethodName)).before a0 Z = true := hw _ (List.mem_of_getElem? (i := 3) rfl)
theorem ow4 {Z : State} {a0 : Array Value} (hw : ∀ d ∈ tables_1, d.before a0 Z = true) : (Jvm.Cond.instanceMethod ({ cls := "com/example/crossweave/crossweave/TimingLine", name := "<init>", desc := "(DD)V" } : Jvm.MethodName)).before a0 Z = true := hw _ (List.mem_of_getElem? (i := 4) rfl)
theorem ow5 {Z : State} {a0 : Array Value} (hw : ∀ d ∈ tables_1, d.before a0 Z = true) : (Jvm.Cond.code ({ cls := "com/example/crossweave/crossweave/TimingLine", name := "<init>", desc := "(DD)V" } : Jvm.MethodName) prog_7_method_1_code (5 : Nat) (Option.none : Option Jvm.ClassFile.FieldType)).before a0 Z = true := hw _ (List.mem_of_getElem? (i := 5) rfl)
theorem ow6 {Z : State} {a0 : Array Value} (hw : ∀ d ∈ tables_1, d.before a0 Z = true) : (Jvm.Cond.methodLink "com/example/crossweave/crossweave/TimingLine" (1 : Nat) ({ cls := "java/lang/Record", name := "<init>", desc := "()V" } : Jvm.MethodName)).before a0 Z = true := hw _ (List.mem_of_getElem? (i := 6) rfl)
theorem ow7 {Z : State} {a0 : Array Value} (hw : ∀ d ∈ tables_1, d.before a0 Z = true) : (Jvm.Cond.instanceMethod ({ cls := "java/lang/Record", name := "<init>", desc := "()V" } : Jvm.MethodName)).before a0 Z = true := hw _ (List.mem_of_getElem? (i := 7) rfl)
theorem ow9 {Z : State} {a0 : Array Value} (hw : ∀ d ∈ tables_1, d.before a0 Z = true) : (Jvm.Cond.initialized "java/lang/Record").before a0 Z = true := hw _ (List.mem_of_getElem? (i := 9) rfl)
theorem ow10 {Z : State} {a0 : Array Value} (hw : ∀ d ∈ tables_1, d.before a0 Z = true) : (Jvm.Cond.code ({ cls := "java/lang/Record", name := "<init>", desc := "()V" } : Jvm.MethodName) jdk_30_method_1_code (1 : Nat) (Option.none : Option Jvm.ClassFile.FieldType)).before a0 Z = true := hw _ (List.mem_of_getElem? (i := 10) rfl)
theorem ow11 {Z : State} {a0 : Array Value} (hw : ∀ d ∈ tables_1, d.before a0 Z = true) : (Jvm.Cond.methodLink "java/lang/Record" (1 : Nat) ({ cls := "java/lang/Object", name := "<init>", desc := "()V" } : Jvm.MethodName)).before a0 Z = true := hw _ (List.mem_of_getElem? (i := 11) rfl)
theorem ow12 {Z : State} {a0 : Array Value} (hw : ∀ d ∈ tables_1, d.before a0 Z = true) : (Jvm.Cond.instanceMethod ({ cls := "java/lang/Object", name := "<init>", desc := "()V" } : Jvm.MethodName)).before a0 Z = true := hw _ (List.mem_of_getElem? (i := 12) rfl)
theorem ow13 {Z : State} {a0 : Array Value} (hw : ∀ d ∈ tables_1, d.before a0 Z = true) : (Jvm.Cond.code ({ cls := "java/lang/Object", name := "<init>", desc := "()V" } : Jvm.MethodName) object_method_1_code (1 : Nat) (Option.none : Option Jvm.ClassFile.FieldType)).before a0 Z = true := hw _ (List.mem_of_getElem? (i := 13) rfl)
theorem ow14 {Z : State} {a0 : Array Value} (hw : ∀ d ∈ tables_1, d.before a0 Z = true) : (Jvm.Cond.fieldLink "com/example/crossweave/crossweave/TimingLine" (7 : Nat) "com/example/crossweave/crossweave/TimingLine" "fixed" "D").before a0 Z = true := hw _ (List.mem_of_getElem? (i := 14) rfl)
theorem ow15 {Z : State} {a0 : Array Value} (hw : ∀ d ∈ tables_1, d.before a0 Z = true) : (Jvm.Cond.laysFinal "com/example/crossweave/crossweave/TimingLine" "com/example/crossweave/crossweave/TimingLine" "fixed" "D").before a0 Z = true := hw _ (List.mem_of_getElem? (i := 15) rfl)
theorem ow16 {Z : State} {a0 : Array Value} (hw : ∀ d ∈ tables_1, d.before a0 Z = true) : (Jvm.Cond.fieldLink "com/example/crossweave/crossweave/TimingLine" (13 : Nat) "com/example/crossweave/crossweave/TimingLine" "perRow" "D").before a0 Z = true := hw _ (List.mem_of_getElem? (i := 16) rfl)
theorem ow17 {Z : State} {a0 : Array Value} (hw : ∀ d ∈ tables_1, d.before a0 Z = true) : (Jvm.Cond.laysFinal "com/example/crossweave/crossweave/TimingLine" "com/example/crossweave/crossweave/TimingLine" "perRow" "D").before a0 Z = true := hw _ (List.mem_of_getElem? (i := 17) rfl)
theorem ow18 {Z : State} {a0 : Array Value} (hw : ∀ d ∈ tables_1, d.before a0 Z = true) : (Jvm.Cond.methodLink "com/example/crossweave/crossweave/TimingLineSecondsPinLaw" (12 : Nat) ({ cls := "com/example/crossweave/crossweave/TimingLine", name := "seconds", desc := "(J)D" } : Jvm.MethodName)).before a0 Z = true := hw _ (List.mem_of_getElem? (i := 18) rfl)
theorem ow19 {Z : State} {a0 : Array Value} (hw : ∀ d ∈ tables_1, d.before a0 Z = true) : (Jvm.Cond.declares ({ cls := "com/example/crossweave/crossweave/TimingLine", name := "seconds", desc := "(J)D" } : Jvm.MethodName)).before a0 Z = true := hw _ (List.mem_of_getElem? (i := 19) rfl)
theorem ow20 {Z : State} {a0 : Array Value} (hw : ∀ d ∈ tables_1, d.before a0 Z = true) : (Jvm.Cond.instanceMethod ({ cls := "com/example/crossweave/crossweave/TimingLine", name := "seconds", desc := "(J)D" } : Jvm.MethodName)).before a0 Z = true := hw _ (List.mem_of_getElem? (i := 20) rfl)
theorem ow21 {Z : State} {a0 : Array Value} (hw : ∀ d ∈ tables_1, d.before a0 Z = true) : (Jvm.Cond.selects "com/example/crossweave/crossweave/TimingLine" ({ cls := "com/example/crossweave/crossweave/TimingLine", name := "seconds", desc := "(J)D" } : Jvm.MethodName) ({ cls := "com/example/crossweave/crossweave/TimingLine", name := "seconds", desc := "(J)D" } : Jvm.MethodName)).before a0 Z = true := hw _ (List.mem_of_getElem? (i := 21) rfl)
theorem ow22 {Z : State} {a0 : Array Value} (hw : ∀ d ∈ tables_1, d.before a0 Z = true) : (Jvm.Cond.code ({ cls := "com/example/crossweave/crossweave/TimingLine", name := "seconds", desc := "(J)D" } : Jvm.MethodName) prog_7_method_3_code (3 : Nat) (Option.some Jvm.ClassFile.FieldType.double)).before a0 Z = true := hw _ (List.mem_of_getElem? (i := 22) rfl)
theorem own_dnz {x : UInt64} (h : Jvm.Free.Fl.NoNaN64 x) : FP.dadd x 9223372036854775808 = x := by
  refine Jvm.FP.Core.dadd_zeroNeg ((Jvm.FP.Core.ne_nan x).mpr ?_)
  have q : (x &&& 0x7fffffffffffffff).toNat ≤ (0x7ff0000000000000 : UInt64).toNat := UInt64.le_iff_toNat_le.mp h
  rw [UInt64.toNat_and] at q
  have e : (0x7fffffffffffffff : UInt64).toNat = 2 ^ 63 - 1 := by decide
  rw [e, Nat.and_two_pow_sub_one_eq_mod] at q
  exact q
theorem own_nz64 : Jvm.Free.Fl.NoNaN64 9223372036854775808 := by unfold Jvm.Free.Fl.NoNaN64; decide
theorem own_shL (x : Int64) : -2199023255552 ≤ (x >>> ((22 : Int32).toInt64 &&& 63)).toInt ∧ (x >>> ((22 : Int32).toInt64 &&& 63)).toInt ≤ 2199023255552 := by
  have e : ((22 : Int32).toInt64 &&& 63) = ((22 : Int32) &&& 0x3f).toInt64 := by decide
  rw [e, c_lshr x 22 22 (by decide)]
  have := rng64 x
  omega
theorem own_sec {a b r : Int64} (a1 : -1048576 ≤ a.toInt) (a2 : a.toInt ≤ 1048576) (b1 : -1024 ≤ b.toInt) (b2 : b.toInt ≤ 1024) (r1 : -2199023255552 ≤ r.toInt) (r2 : r.toInt ≤ 2199023255552) :
    FP.dadd (FP.l2d a) (FP.dmul (FP.l2d b) (FP.l2d r)) = FP.l2d (a + b * r) ∧ Jvm.Free.Fl.NoNaN64 (FP.dmul (FP.l2d b) (FP.l2d r)) := by
  have hB : B53 b := ⟨by omega, by omega⟩
  have hR : B53 r := ⟨by omega, by omega⟩
  have hA : B53 a := ⟨by omega, by omega⟩
  by_cases h : (b = 0 ∧ r < 0) ∨ (r = 0 ∧ b < 0)
  · have e : FP.dmul (FP.l2d b) (FP.l2d r) = 9223372036854775808 := by
      rw [dmul_z hB hR (by rcases h with q | q; exact Or.inl q.1; exact Or.inr q.1)]
      refine if_pos ?_
      rcases h with ⟨rfl, q⟩ | ⟨rfl, q⟩ <;> rw [Int64.lt_iff_toInt_lt] at q <;> simp_all
    have z : b * r = 0 := by rcases h with ⟨rfl, q⟩ | ⟨rfl, q⟩ <;> simp
    rw [e, z, Int64.add_zero]
    exact ⟨own_dnz (Jvm.Free.Fl.l2d_fin a).noNaN, own_nz64⟩
  · have e : FP.dmul (FP.l2d b) (FP.l2d r) = FP.l2d (b * r) := dmul_k (A := 1024) (B := 2199023255552) (by omega) b2 (by omega) r2 (by decide) (by decide) (by decide) (fun q => h (Or.inl q)) (fun q => h (Or.inr q))
    have hm : (b.toInt * r.toInt).natAbs ≤ 1024 * 2199023255552 := by rw [Int.natAbs_mul]; exact Nat.mul_le_mul (by omega) (by omega)
    have k : (b * r).toInt = b.toInt * r.toInt := XT.mul64 (by simp only [XT.fits64]; omega)
    rw [e]
    exact ⟨dadd_w hA ⟨by omega, by omega⟩, nn_w rfl⟩
theorem own_shI (x q : Int32) (k : Nat) (hk : q.toBitVec.toNat % 32 = k) (hk' : k ≤ 31) : -2147483648 / (2 ^ k : Nat) ≤ (x >>> (q &&& 31)).toInt64.toInt ∧ (x >>> (q &&& 31)).toInt64.toInt ≤ 2147483648 / (2 ^ k : Nat) := by
  rw [c_i2l, c_ishr x q k hk]
  have := rng32 x
  exact ⟨Int.ediv_le_ediv (by have := Nat.two_pow_pos k; omega) (by omega), Int.ediv_le_ediv (by have := Nat.two_pow_pos k; omega) (by omega)⟩

theorem pn0 : plainName "java/lang/Record" = true := by first | (simp [plainName, overriddenIn]; done) | decide +kernel
theorem d_jdk_30_method_1_0 : decode jdk_30_method_1_code 0 = .ok (.aload_n 0, 1) := by decide +kernel
theorem d_jdk_30_method_1_1 : decode jdk_30_method_1_code 1 = .ok (.invokespecial 1, 3) := by decide +kernel
theorem d_jdk_30_method_1_4 : decode jdk_30_method_1_code 4 = .ok (.return_, 1) := by decide +kernel
theorem ef_rm1 (m : MethodId) (x0 : Addr) : entryFrame m #[(.ref x0)] 1 = mkF m 0 #[.val (.ref x0)] [] := by first | (simp [entryFrame, mkF, argsToLocals, Value.category]; done) | rfl
def Q_rm1 (Z : State) (a : Addr) (h0 : Heap) (n0 : Nat) (v : Option Value) (h : Heap) (L : List Loc) : Prop := v = none ∧ Fr n0 L ∧ h = h0
set_option maxRecDepth 65536 in
set_option maxHeartbeats 40000000 in
theorem rm1 (l : Launch) (Z : State) (a0 : Array Value) (hw : ∀ d ∈ tables_1, d.before a0 Z = true) (ws : List Jvm.Cond) (a : Addr) (h0 : Heap) (n0 : Nat) (Z0 : n0 ≤ h0.size)  :
    OCon l Z (⟨"java/lang/Record", "<init>", "()V"⟩ : MethodName) jdk_30_method_1_code 1 none ws ({ frames := 1, cells := 0, slots := 0, locals := 12 } : Room) #[(.ref a)] h0 (Q_rm1 Z a h0 n0) := by
  refine OCon.of (plainFor_of_name pn0) ?_
  intro p e s m below meth c s₁ Φ X0 hx hby hml hown hnm hret hlk hZ e0 hΦ
  have N0 := Fr.nil n0
  refine OGo.st (fun _ kz => castTop (ef_rm1 m a) kz) ?_
  show OGo p.tables e below Φ (s₁.setTop (mkF m 0 #[.val (.ref a)] []))
  refine OGo.st (fun _ kz => XS.aloadN X0.here hx rfl (hb hby d_jdk_30_method_1_0) rfl rfl kz) ?_
  show OGo p.tables e below Φ (s₁.setTop (mkF m 1 #[.val (.ref a)] [(.ref a)]))
  obtain ⟨T1, X1, e1, st1⟩ := initO X0 hx hZ hown (ow11 hw) (ow12 hw) (ow13 hw) e0 (g := (mkF m 1 #[.val (.ref a)] [(.ref a)])) rfl (by rw [hml]; rfl) rfl (hb hby d_jdk_30_method_1_1) (by decide) (W := 0) (Nat.le_of_eq rfl) (by decide)
  refine OGo.st st1 ?_
  show OGo p.tables e below Φ (T1.setTop (mkF m 4 #[.val (.ref a)] []))
  refine OGo.fin X1 hlk (v := none) (fun _ => rfl) (by decide) (by decide) (fun fs hr => X1.returnOut hx hret (hb hby d_jdk_30_method_1_4) hr) fun U eU hF => hΦ _ _ _ ?_ hF
  rw [eU, e1]
  show Q_rm1 Z a h0 n0 _ _ _
  exact ⟨rfl, N0, rfl⟩

theorem pn1 : plainName "com/example/crossweave/crossweave/TimingLine" = true := by first | (simp [plainName, overriddenIn]; done) | decide +kernel
theorem d_prog_7_method_1_0 : decode prog_7_method_1_code 0 = .ok (.aload_n 0, 1) := by decide +kernel
theorem d_prog_7_method_1_1 : decode prog_7_method_1_code 1 = .ok (.invokespecial 1, 3) := by decide +kernel
theorem pd0 : parseMethodDescriptor "()V" = some ⟨[], none⟩ := by decide +kernel
theorem d_prog_7_method_1_4 : decode prog_7_method_1_code 4 = .ok (.aload_n 0, 1) := by decide +kernel
theorem d_prog_7_method_1_5 : decode prog_7_method_1_code 5 = .ok (.dload_n 1, 1) := by decide +kernel
theorem d_prog_7_method_1_6 : decode prog_7_method_1_code 6 = .ok (.putfield 7, 3) := by decide +kernel
theorem d_prog_7_method_1_9 : decode prog_7_method_1_code 9 = .ok (.aload_n 0, 1) := by decide +kernel
theorem d_prog_7_method_1_10 : decode prog_7_method_1_code 10 = .ok (.dload_n 3, 1) := by decide +kernel
theorem d_prog_7_method_1_11 : decode prog_7_method_1_code 11 = .ok (.putfield 13, 3) := by decide +kernel
theorem d_prog_7_method_1_14 : decode prog_7_method_1_code 14 = .ok (.return_, 1) := by decide +kernel
theorem ef_rm2 (m : MethodId) (x0 : Addr) (x1 : UInt64) (x2 : UInt64) : entryFrame m #[(.ref x0), (.double x1), (.double x2)] 5 = mkF m 0 #[.val (.ref x0), .val (.double x1), .second, .val (.double x2), .second] [] := by first | (simp [entryFrame, mkF, argsToLocals, Value.category]; done) | rfl
def Q_rm2 (Z : State) (a : Addr) (x1 : UInt64) (x2 : UInt64) (u0 : Value) (u1 : Value) (h0 : Heap) (n0 : Nat) (v : Option Value) (h : Heap) (L : List Loc) : Prop := v = none ∧ Fr n0 L ∧ Keep h0 h [a] ∧ Exa Z h a "com/example/crossweave/crossweave/TimingLine" ∧ Fld Z h a "com/example/crossweave/crossweave/TimingLine" "fixed" "D" (.double x1) ∧ Fld Z h a "com/example/crossweave/crossweave/TimingLine" "perRow" "D" (.double x2)
set_option maxRecDepth 65536 in
set_option maxHeartbeats 40000000 in
theorem rm2 (l : Launch) (Z : State) (a0 : Array Value) (hw : ∀ d ∈ tables_1, d.before a0 Z = true) (ws : List Jvm.Cond) (a : Addr) (x1 : UInt64) (x2 : UInt64) (u0 : Value) (u1 : Value) (h0 : Heap) (n0 : Nat) (Z0 : n0 ≤ h0.size) (E_a : Exa Z h0 a "com/example/crossweave/crossweave/TimingLine") (g_a : n0 ≤ a) (F_0 : Fld Z h0 a "com/example/crossweave/crossweave/TimingLine" "fixed" "D" u0) (F_1 : Fld Z h0 a "com/example/crossweave/crossweave/TimingLine" "perRow" "D" u1) :
    OCon l Z (⟨"com/example/crossweave/crossweave/TimingLine", "<init>", "(DD)V"⟩ : MethodName) prog_7_method_1_code 5 none ws ({ frames := 2, cells := 0, slots := 0, locals := 24 } : Room) #[(.ref a), (.double x1), (.double x2)] h0 (Q_rm2 Z a x1 x2 u0 u1 h0 n0) := by
  refine OCon.of (plainFor_of_name pn1) ?_
  intro p e s m below meth c s₁ Φ X0 hx hby hml hown hnm hret hlk hZ e0 hΦ
  have N0 := Fr.nil n0
  refine OGo.st (fun _ kz => castTop (ef_rm2 m a x1 x2) kz) ?_
  have K0 := Keep.refl h0 [a]
  show OGo p.tables e below Φ (s₁.setTop (mkF m 0 #[.val (.ref a), .val (.double x1), .second, .val (.double x2), .second] []))
  refine OGo.st (fun _ kz => XS.aloadN X0.here hx rfl (hb hby d_prog_7_method_1_0) rfl rfl kz) ?_
  show OGo p.tables e below Φ (s₁.setTop (mkF m 1 #[.val (.ref a), .val (.double x1), .second, .val (.double x2), .second] [(.ref a)]))
  obtain ⟨_, T1, L1, X1, hQ1, st1⟩ := own_callSp X0 hx hZ rfl hown (ow6 hw) (ow7 hw) (ow9 hw) (ow10 hw) (by decide) (rm1 l Z a0 hw [] a h0 n0 Z0 ) e0 (W := 0) (by decide) (by decide) (by decide) (by decide) (pc := 1) (ls := #[.val (.ref a), .val (.double x1), .second, .val (.double x2), .second]) (stk := [(.ref a)]) (by rw [hml]; rfl) (a := a) (argsL := []) (rest := []) (lenOf pd0 rfl) rfl rfl (Nat.le_of_eq rfl) (hb hby d_prog_7_method_1_1)
  obtain ⟨rfl, Nq1, e1⟩ := hQ1
  have N1 := Fr.app N0 Nq1
  refine OGo.st st1 ?_
  show OGo p.tables e below Φ (T1.setTop (mkF m 4 #[.val (.ref a), .val (.double x1), .second, .val (.double x2), .second] []))
  refine OGo.st (fun _ kz => XS.aloadN X1.here hx rfl (hb hby d_prog_7_method_1_4) rfl rfl kz) ?_
  show OGo p.tables e below Φ (T1.setTop (mkF m 5 #[.val (.ref a), .val (.double x1), .second, .val (.double x2), .second] [(.ref a)]))
  refine OGo.st (fun _ kz => XS.dloadN X1.here hx rfl (hb hby d_prog_7_method_1_5) rfl kz) ?_
  show OGo p.tables e below Φ (T1.setTop (mkF m 6 #[.val (.ref a), .val (.double x1), .second, .val (.double x2), .second] [(.double x1), (.ref a)]))
  obtain ⟨T2, h2, X2, e2, W2, st2⟩ := putF X1 hx hZ hown (host := "") (Or.inl (ow14 hw)) Via.refl e1 F_0 E_a (Or.inr ⟨(ow15 hw), rfl, hnm⟩) (ow1 hw) (ty := .double) (by decide) rfl rfl (g := (mkF m 6 #[.val (.ref a), .val (.double x1), .second, .val (.double x2), .second] [(.double x1), (.ref a)])) rfl rfl (hb hby d_prog_7_method_1_6)
  have F3 := E_a.wr W2
  have F4 := F_0.same W2
  have F5 := F_1.other W2 (Or.inr (slot_ne (Or.inr (ow17 hw)) (Or.inr (ow15 hw)) (by decide) (t := .double) (t' := .double) (by decide) (by decide)))
  have K2 := K0.wr W2 (Or.inl (List.mem_of_getElem? (i := 0) rfl))
  have N2 := Fr.snoc X2 N1 g_a
  have Zs2 : n0 ≤ h2.size := by rw [W2.size]; exact Z0
  refine OGo.st st2 ?_
  show OGo p.tables e below Φ (T2.setTop (mkF m 9 #[.val (.ref a), .val (.double x1), .second, .val (.double x2), .second] []))
  refine OGo.st (fun _ kz => XS.aloadN X2.here hx rfl (hb hby d_prog_7_method_1_9) rfl rfl kz) ?_
  show OGo p.tables e below Φ (T2.setTop (mkF m 10 #[.val (.ref a), .val (.double x1), .second, .val (.double x2), .second] [(.ref a)]))
  refine OGo.st (fun _ kz => XS.dloadN X2.here hx rfl (hb hby d_prog_7_method_1_10) rfl kz) ?_
  show OGo p.tables e below Φ (T2.setTop (mkF m 11 #[.val (.ref a), .val (.double x1), .second, .val (.double x2), .second] [(.double x2), (.ref a)]))
  obtain ⟨T6, h6, X6, e6, W6, st6⟩ := putF X2 hx hZ hown (host := "") (Or.inl (ow16 hw)) Via.refl e2 F5 F3 (Or.inr ⟨(ow17 hw), rfl, hnm⟩) (ow1 hw) (ty := .double) (by decide) rfl rfl (g := (mkF m 11 #[.val (.ref a), .val (.double x1), .second, .val (.double x2), .second] [(.double x2), (.ref a)])) rfl rfl (hb hby d_prog_7_method_1_11)
  have F7 := F3.wr W6
  have F8 := F4.other W6 (Or.inr (slot_ne (Or.inr (ow15 hw)) (Or.inr (ow17 hw)) (by decide) (t := .double) (t' := .double) (by decide) (by decide)))
  have F9 := F5.same W6
  have K6 := K2.wr W6 (Or.inl (List.mem_of_getElem? (i := 0) rfl))
  have N6 := Fr.snoc X6 N2 g_a
  have Zs6 : n0 ≤ h6.size := by rw [W6.size]; exact Zs2
  refine OGo.st st6 ?_
  show OGo p.tables e below Φ (T6.setTop (mkF m 14 #[.val (.ref a), .val (.double x1), .second, .val (.double x2), .second] []))
  refine OGo.fin X6 hlk (v := none) (fun _ => rfl) (by decide) (by decide) (fun fs hr => X6.returnOut hx hret (hb hby d_prog_7_method_1_14) hr) fun U eU hF => hΦ _ _ _ ?_ hF
  rw [eU, e6]
  show Q_rm2 Z a x1 x2 u0 u1 h0 n0 _ _ _
  exact ⟨rfl, N6, K6, F7, F8, F9⟩

theorem d_prog_7_method_3_0 : decode prog_7_method_3_code 0 = .ok (.aload_n 0, 1) := by decide +kernel
theorem d_prog_7_method_3_1 : decode prog_7_method_3_code 1 = .ok (.getfield 7, 3) := by decide +kernel
theorem d_prog_7_method_3_4 : decode prog_7_method_3_code 4 = .ok (.aload_n 0, 1) := by decide +kernel
theorem d_prog_7_method_3_5 : decode prog_7_method_3_code 5 = .ok (.getfield 13, 3) := by decide +kernel
theorem d_prog_7_method_3_8 : decode prog_7_method_3_code 8 = .ok (.lload_n 1, 1) := by decide +kernel
theorem d_prog_7_method_3_9 : decode prog_7_method_3_code 9 = .ok (.l2d, 1) := by decide +kernel
theorem d_prog_7_method_3_10 : decode prog_7_method_3_code 10 = .ok (.dmul, 1) := by decide +kernel
theorem d_prog_7_method_3_11 : decode prog_7_method_3_code 11 = .ok (.dadd, 1) := by decide +kernel
theorem d_prog_7_method_3_12 : decode prog_7_method_3_code 12 = .ok (.dreturn, 1) := by decide +kernel
theorem ef_rm3 (m : MethodId) (x0 : Addr) (x1 : Int64) : entryFrame m #[(.ref x0), (.long x1)] 3 = mkF m 0 #[.val (.ref x0), .val (.long x1), .second] [] := by first | (simp [entryFrame, mkF, argsToLocals, Value.category]; done) | rfl
def Q_rm3 (Z : State) (a : Addr) (f : UInt64) (q : UInt64) (r : Int64) (h0 : Heap) (n0 : Nat) (v : Option Value) (h : Heap) (L : List Loc) : Prop := v = some (.double (FP.dadd f (FP.dmul q (FP.l2d r)))) ∧ Fr n0 L ∧ h = h0
set_option maxRecDepth 65536 in
set_option maxHeartbeats 40000000 in
theorem rm3 (l : Launch) (Z : State) (a0 : Array Value) (hw : ∀ d ∈ tables_1, d.before a0 Z = true) (ws : List Jvm.Cond) (a : Addr) (f : UInt64) (q : UInt64) (r : Int64) (h0 : Heap) (n0 : Nat) (Z0 : n0 ≤ h0.size) (F_f : Fld Z h0 a "com/example/crossweave/crossweave/TimingLine" "fixed" "D" (.double f)) (F_p : Fld Z h0 a "com/example/crossweave/crossweave/TimingLine" "perRow" "D" (.double q)) (n1 : Jvm.Free.Fl.NoNaN64 (FP.dmul q (FP.l2d r))) (n2 : Jvm.Free.Fl.NoNaN64 (FP.dadd f (FP.dmul q (FP.l2d r)))) :
    OCon l Z (⟨"com/example/crossweave/crossweave/TimingLine", "seconds", "(J)D"⟩ : MethodName) prog_7_method_3_code 3 (some .double) ws ({ frames := 0, cells := 0, slots := 0, locals := 0 } : Room) #[(.ref a), (.long r)] h0 (Q_rm3 Z a f q r h0 n0) := by
  refine OCon.of (plainFor_of_name pn1) ?_
  intro p e s m below meth c s₁ Φ X0 hx hby hml hown hnm hret hlk hZ e0 hΦ
  have N0 := Fr.nil n0
  refine OGo.st (fun _ kz => castTop (ef_rm3 m a r) kz) ?_
  show OGo p.tables e below Φ (s₁.setTop (mkF m 0 #[.val (.ref a), .val (.long r), .second] []))
  refine OGo.st (fun _ kz => XS.aloadN X0.here hx rfl (hb hby d_prog_7_method_3_0) rfl rfl kz) ?_
  show OGo p.tables e below Φ (s₁.setTop (mkF m 1 #[.val (.ref a), .val (.long r), .second] [(.ref a)]))
  obtain ⟨T1, X1, e1, st1⟩ := getF X0 hx hZ hown (host := "") (Or.inl (ow14 hw)) Via.refl e0 F_f (g := (mkF m 1 #[.val (.ref a), .val (.long r), .second] [(.ref a)])) rfl rfl (hb hby d_prog_7_method_3_1)
  refine OGo.st st1 ?_
  show OGo p.tables e below Φ (T1.setTop (mkF m 4 #[.val (.ref a), .val (.long r), .second] [(.double f)]))
  refine OGo.st (fun _ kz => XS.aloadN X1.here hx rfl (hb hby d_prog_7_method_3_4) rfl rfl kz) ?_
  show OGo p.tables e below Φ (T1.setTop (mkF m 5 #[.val (.ref a), .val (.long r), .second] [(.ref a), (.double f)]))
  obtain ⟨T2, X2, e2, st2⟩ := getF X1 hx hZ hown (host := "") (Or.inl (ow16 hw)) Via.refl e1 F_p (g := (mkF m 5 #[.val (.ref a), .val (.long r), .second] [(.ref a), (.double f)])) rfl rfl (hb hby d_prog_7_method_3_5)
  refine OGo.st st2 ?_
  show OGo p.tables e below Φ (T2.setTop (mkF m 8 #[.val (.ref a), .val (.long r), .second] [(.double q), (.double f)]))
  refine OGo.st (fun _ kz => XT.lloadN X2.here hx rfl (hb hby d_prog_7_method_3_8) rfl kz) ?_
  show OGo p.tables e below Φ (T2.setTop (mkF m 9 #[.val (.ref a), .val (.long r), .second] [(.long r), (.double q), (.double f)]))
  refine OGo.st (fun _ kz => XS.l2dS X2.here hx rfl (hb hby d_prog_7_method_3_9) rfl rfl kz) ?_
  show OGo p.tables e below Φ (T2.setTop (mkF m 10 #[.val (.ref a), .val (.long r), .second] [(.double (FP.l2d r)), (.double q), (.double f)]))
  refine OGo.st (fun _ kz => XS.dmulS X2.here hx rfl (hb hby d_prog_7_method_3_10) rfl n1 rfl kz) ?_
  show OGo p.tables e below Φ (T2.setTop (mkF m 11 #[.val (.ref a), .val (.long r), .second] [(.double (FP.dmul q (FP.l2d r))), (.double f)]))
  refine OGo.st (fun _ kz => XS.daddS X2.here hx rfl (hb hby d_prog_7_method_3_11) rfl n2 rfl kz) ?_
  show OGo p.tables e below Φ (T2.setTop (mkF m 12 #[.val (.ref a), .val (.long r), .second] [(.double (FP.dadd f (FP.dmul q (FP.l2d r))))]))
  refine OGo.fin X2 hlk (v := (some (.double (FP.dadd f (FP.dmul q (FP.l2d r)))))) (fun h => by rw [hret] at h; cases h) (by decide) (by decide) (fun fs hr => retOut X2 hx hret rfl (Or.inr (Or.inr (Or.inl ⟨rfl, rfl, _, rfl⟩))) (hb hby d_prog_7_method_3_12) hr) fun U eU hF => hΦ _ _ _ ?_ hF
  rw [eU, e2]
  show Q_rm3 Z a f q r h0 n0 _ _ _
  exact ⟨rfl, N0, rfl⟩

theorem pn2 : plainName "com/example/crossweave/crossweave/TimingLineSecondsPinLaw" = true := by first | (simp [plainName, overriddenIn]; done) | decide +kernel
theorem pd1 : parseMethodDescriptor "(DD)V" = some ⟨[.double, .double], none⟩ := by decide +kernel
theorem pd2 : parseMethodDescriptor "(J)D" = some ⟨[.long], some .double⟩ := by decide +kernel
theorem ef_rm0 (m : MethodId) (x0 : Int32) (x1 : Int32) (x2 : Int64) : entryFrame m #[(.int x0), (.int x1), (.long x2)] maxLocals = mkF m 0 #[.val (.int x0), .val (.int x1), .val (.long x2), .second, .unset, .unset, .unset, .unset, .unset, .unset, .unset, .unset, .unset] [] := by first | (simp [entryFrame, mkF, argsToLocals, Value.category, maxLocals]; done) | rfl
def Q_rm0 (Z : State) (xx : Int32) (xy : Int32) (xw : Int64) (h0 : Heap) (n0 : Nat) (v : Option Value) (h : Heap) (L : List Loc) : Prop := v = some (.int (1 : Int32)) ∧ Fr n0 L
set_option maxRecDepth 65536 in
set_option maxHeartbeats 40000000 in
theorem rm0 (l : Launch) (Z : State) (a0 : Array Value) (hw : ∀ d ∈ tables_1, d.before a0 Z = true) (ws : List Jvm.Cond) (xx : Int32) (xy : Int32) (xw : Int64) (h0 : Heap) (n0 : Nat) (Z0 : n0 ≤ h0.size)  :
    OCon l Z x code maxLocals ret ws room_1 #[(.int xx), (.int xy), (.long xw)] h0 (Q_rm0 Z xx xy xw h0 n0) := by
  refine OCon.of (plainFor_of_name pn2) ?_
  intro p e s m below meth c s₁ Φ X0 hx hby hml hown hnm hret hlk hZ e0 hΦ
  have N0 := Fr.nil n0
  refine OGo.st (fun _ kz => castTop (ef_rm0 m xx xy xw) kz) ?_
  show OGo p.tables e below Φ (s₁.setTop (mkF m 0 #[.val (.int xx), .val (.int xy), .val (.long xw), .second, .unset, .unset, .unset, .unset, .unset, .unset, .unset, .unset, .unset] []))
  refine OGo.st (fun _ kz => XS.iloadN X0.here hx rfl (hb hby at_0) rfl kz) ?_
  show OGo p.tables e below Φ (s₁.setTop (mkF m 1 #[.val (.int xx), .val (.int xy), .val (.long xw), .second, .unset, .unset, .unset, .unset, .unset, .unset, .unset, .unset, .unset] [(.int xx)]))
  refine OGo.st (fun _ kz => XS.bipush X0.here hx rfl (hb hby at_1) kz) ?_
  show OGo p.tables e below Φ (s₁.setTop (mkF m 3 #[.val (.int xx), .val (.int xy), .val (.long xw), .second, .unset, .unset, .unset, .unset, .unset, .unset, .unset, .unset, .unset] [(.int (11 : Int32)), (.int xx)]))
  refine OGo.st (fun _ kz => XT.ishr X0.here hx rfl (hb hby at_3) rfl kz) ?_
  show OGo p.tables e below Φ (s₁.setTop (mkF m 4 #[.val (.int xx), .val (.int xy), .val (.long xw), .second, .unset, .unset, .unset, .unset, .unset, .unset, .unset, .unset, .unset] [(.int (xx >>> ((11 : Int32) &&& 31)))]))
  refine OGo.st (fun _ kz => XT.i2l X0.here hx rfl (hb hby at_4) rfl kz) ?_
  show OGo p.tables e below Φ (s₁.setTop (mkF m 5 #[.val (.int xx), .val (.int xy), .val (.long xw), .second, .unset, .unset, .unset, .unset, .unset, .unset, .unset, .unset, .unset] [(.long ((xx >>> ((11 : Int32) &&& 31)).toInt64))]))
  refine OGo.st (fun _ kz => XT.lstore X0.here hx rfl (hb hby at_5) rfl (l' := #[.val (.int xx), .val (.int xy), .val (.long xw), .second, .val (.long ((xx >>> ((11 : Int32) &&& 31)).toInt64)), .second, .unset, .unset, .unset, .unset, .unset, .unset, .unset]) rfl kz) ?_
  show OGo p.tables e below Φ (s₁.setTop (mkF m 7 #[.val (.int xx), .val (.int xy), .val (.long xw), .second, .val (.long ((xx >>> ((11 : Int32) &&& 31)).toInt64)), .second, .unset, .unset, .unset, .unset, .unset, .unset, .unset] []))
  refine OGo.st (fun _ kz => XS.iloadN X0.here hx rfl (hb hby at_7) rfl kz) ?_
  show OGo p.tables e below Φ (s₁.setTop (mkF m 8 #[.val (.int xx), .val (.int xy), .val (.long xw), .second, .val (.long ((xx >>> ((11 : Int32) &&& 31)).toInt64)), .second, .unset, .unset, .unset, .unset, .unset, .unset, .unset] [(.int xy)]))
  refine OGo.st (fun _ kz => XS.bipush X0.here hx rfl (hb hby at_8) kz) ?_
  show OGo p.tables e below Φ (s₁.setTop (mkF m 10 #[.val (.int xx), .val (.int xy), .val (.long xw), .second, .val (.long ((xx >>> ((11 : Int32) &&& 31)).toInt64)), .second, .unset, .unset, .unset, .unset, .unset, .unset, .unset] [(.int (21 : Int32)), (.int xy)]))
  refine OGo.st (fun _ kz => XT.ishr X0.here hx rfl (hb hby at_10) rfl kz) ?_
  show OGo p.tables e below Φ (s₁.setTop (mkF m 11 #[.val (.int xx), .val (.int xy), .val (.long xw), .second, .val (.long ((xx >>> ((11 : Int32) &&& 31)).toInt64)), .second, .unset, .unset, .unset, .unset, .unset, .unset, .unset] [(.int (xy >>> ((21 : Int32) &&& 31)))]))
  refine OGo.st (fun _ kz => XT.i2l X0.here hx rfl (hb hby at_11) rfl kz) ?_
  show OGo p.tables e below Φ (s₁.setTop (mkF m 12 #[.val (.int xx), .val (.int xy), .val (.long xw), .second, .val (.long ((xx >>> ((11 : Int32) &&& 31)).toInt64)), .second, .unset, .unset, .unset, .unset, .unset, .unset, .unset] [(.long ((xy >>> ((21 : Int32) &&& 31)).toInt64))]))
  refine OGo.st (fun _ kz => XT.lstore X0.here hx rfl (hb hby at_12) rfl (l' := #[.val (.int xx), .val (.int xy), .val (.long xw), .second, .val (.long ((xx >>> ((11 : Int32) &&& 31)).toInt64)), .second, .val (.long ((xy >>> ((21 : Int32) &&& 31)).toInt64)), .second, .unset, .unset, .unset, .unset, .unset]) rfl kz) ?_
  show OGo p.tables e below Φ (s₁.setTop (mkF m 14 #[.val (.int xx), .val (.int xy), .val (.long xw), .second, .val (.long ((xx >>> ((11 : Int32) &&& 31)).toInt64)), .second, .val (.long ((xy >>> ((21 : Int32) &&& 31)).toInt64)), .second, .unset, .unset, .unset, .unset, .unset] []))
  refine OGo.st (fun _ kz => XT.lloadN X0.here hx rfl (hb hby at_14) rfl kz) ?_
  show OGo p.tables e below Φ (s₁.setTop (mkF m 15 #[.val (.int xx), .val (.int xy), .val (.long xw), .second, .val (.long ((xx >>> ((11 : Int32) &&& 31)).toInt64)), .second, .val (.long ((xy >>> ((21 : Int32) &&& 31)).toInt64)), .second, .unset, .unset, .unset, .unset, .unset] [(.long xw)]))
  refine OGo.st (fun _ kz => XS.bipush X0.here hx rfl (hb hby at_15) kz) ?_
  show OGo p.tables e below Φ (s₁.setTop (mkF m 17 #[.val (.int xx), .val (.int xy), .val (.long xw), .second, .val (.long ((xx >>> ((11 : Int32) &&& 31)).toInt64)), .second, .val (.long ((xy >>> ((21 : Int32) &&& 31)).toInt64)), .second, .unset, .unset, .unset, .unset, .unset] [(.int (22 : Int32)), (.long xw)]))
  refine OGo.st (fun _ kz => XT.lshr X0.here hx rfl (hb hby at_17) rfl kz) ?_
  show OGo p.tables e below Φ (s₁.setTop (mkF m 18 #[.val (.int xx), .val (.int xy), .val (.long xw), .second, .val (.long ((xx >>> ((11 : Int32) &&& 31)).toInt64)), .second, .val (.long ((xy >>> ((21 : Int32) &&& 31)).toInt64)), .second, .unset, .unset, .unset, .unset, .unset] [(.long (xw >>> ((22 : Int32).toInt64 &&& 63)))]))
  refine OGo.st (fun _ kz => XT.lstore X0.here hx rfl (hb hby at_18) rfl (l' := #[.val (.int xx), .val (.int xy), .val (.long xw), .second, .val (.long ((xx >>> ((11 : Int32) &&& 31)).toInt64)), .second, .val (.long ((xy >>> ((21 : Int32) &&& 31)).toInt64)), .second, .val (.long (xw >>> ((22 : Int32).toInt64 &&& 63))), .second, .unset, .unset, .unset]) rfl kz) ?_
  show OGo p.tables e below Φ (s₁.setTop (mkF m 20 #[.val (.int xx), .val (.int xy), .val (.long xw), .second, .val (.long ((xx >>> ((11 : Int32) &&& 31)).toInt64)), .second, .val (.long ((xy >>> ((21 : Int32) &&& 31)).toInt64)), .second, .val (.long (xw >>> ((22 : Int32).toInt64 &&& 63))), .second, .unset, .unset, .unset] []))
  obtain ⟨ra, h_ra⟩ : ∃ z, z = ((xx >>> ((11 : Int32) &&& 31)).toInt64) := ⟨_, rfl⟩
  rw [← h_ra]
  show OGo p.tables e below Φ (s₁.setTop (mkF m 20 #[.val (.int xx), .val (.int xy), .val (.long xw), .second, .val (.long ra), .second, .val (.long ((xy >>> ((21 : Int32) &&& 31)).toInt64)), .second, .val (.long (xw >>> ((22 : Int32).toInt64 &&& 63))), .second, .unset, .unset, .unset] []))
  obtain ⟨rb, h_rb⟩ : ∃ z, z = ((xy >>> ((21 : Int32) &&& 31)).toInt64) := ⟨_, rfl⟩
  rw [← h_rb]
  show OGo p.tables e below Φ (s₁.setTop (mkF m 20 #[.val (.int xx), .val (.int xy), .val (.long xw), .second, .val (.long ra), .second, .val (.long rb), .second, .val (.long (xw >>> ((22 : Int32).toInt64 &&& 63))), .second, .unset, .unset, .unset] []))
  obtain ⟨rr, h_rr⟩ : ∃ z, z = (xw >>> ((22 : Int32).toInt64 &&& 63)) := ⟨_, rfl⟩
  rw [← h_rr]
  show OGo p.tables e below Φ (s₁.setTop (mkF m 20 #[.val (.int xx), .val (.int xy), .val (.long xw), .second, .val (.long ra), .second, .val (.long rb), .second, .val (.long rr), .second, .unset, .unset, .unset] []))
  have hS := own_sec (a := ra) (b := rb) (r := rr) (by rw [h_ra]; exact (own_shI xx 11 11 (by decide) (by decide)).1) (by rw [h_ra]; exact (own_shI xx 11 11 (by decide) (by decide)).2) (by rw [h_rb]; exact (own_shI xy 21 21 (by decide) (by decide)).1) (by rw [h_rb]; exact (own_shI xy 21 21 (by decide) (by decide)).2) (by rw [h_rr]; exact (own_shL xw).1) (by rw [h_rr]; exact (own_shL xw).2)
  obtain ⟨T1, h1, X1, e1, E1, A1, D1, U1, st1⟩ := newO X0 hx hZ hown (ow0 hw) (ow1 hw) (ow2 hw) e0 (g := (mkF m 20 #[.val (.int xx), .val (.int xy), .val (.long xw), .second, .val (.long ra), .second, .val (.long rb), .second, .val (.long rr), .second, .unset, .unset, .unset] [])) rfl (hb hby at_20) (by decide) (by decide)
  obtain ⟨b1, g1⟩ : ∃ z, z = h0.size := ⟨_, rfl⟩
  rw [← g1] at A1 D1 st1 U1
  have gb1 : n0 ≤ b1 := Nat.le_trans Z0 (Nat.le_of_eq g1.symm)
  have Zs1 : n0 ≤ h1.size := Nat.le_trans Z0 E1.1
  have F1_15 : Fld Z h1 b1 "com/example/crossweave/crossweave/TimingLine" "fixed" "D" (.double 0) := D1 (Or.inr (ow15 hw)) (ty := .double) (by decide)
  have F1_17 : Fld Z h1 b1 "com/example/crossweave/crossweave/TimingLine" "perRow" "D" (.double 0) := D1 (Or.inr (ow17 hw)) (ty := .double) (by decide)
  refine OGo.st (st1) ?_
  show OGo p.tables e below Φ (T1.setTop (mkF m 23 #[.val (.int xx), .val (.int xy), .val (.long xw), .second, .val (.long ra), .second, .val (.long rb), .second, .val (.long rr), .second, .unset, .unset, .unset] [(.ref b1)]))
  refine OGo.st (fun _ kz => XS.dup X1.here hx rfl (hb hby at_23) rfl rfl kz) ?_
  show OGo p.tables e below Φ (T1.setTop (mkF m 24 #[.val (.int xx), .val (.int xy), .val (.long xw), .second, .val (.long ra), .second, .val (.long rb), .second, .val (.long rr), .second, .unset, .unset, .unset] [(.ref b1), (.ref b1)]))
  refine OGo.st (fun _ kz => XT.lload X1.here hx rfl (hb hby at_24) rfl kz) ?_
  show OGo p.tables e below Φ (T1.setTop (mkF m 26 #[.val (.int xx), .val (.int xy), .val (.long xw), .second, .val (.long ra), .second, .val (.long rb), .second, .val (.long rr), .second, .unset, .unset, .unset] [(.long ra), (.ref b1), (.ref b1)]))
  refine OGo.st (fun _ kz => XS.l2dS X1.here hx rfl (hb hby at_26) rfl rfl kz) ?_
  show OGo p.tables e below Φ (T1.setTop (mkF m 27 #[.val (.int xx), .val (.int xy), .val (.long xw), .second, .val (.long ra), .second, .val (.long rb), .second, .val (.long rr), .second, .unset, .unset, .unset] [(.double (FP.l2d ra)), (.ref b1), (.ref b1)]))
  refine OGo.st (fun _ kz => XT.lload X1.here hx rfl (hb hby at_27) rfl kz) ?_
  show OGo p.tables e below Φ (T1.setTop (mkF m 29 #[.val (.int xx), .val (.int xy), .val (.long xw), .second, .val (.long ra), .second, .val (.long rb), .second, .val (.long rr), .second, .unset, .unset, .unset] [(.long rb), (.double (FP.l2d ra)), (.ref b1), (.ref b1)]))
  refine OGo.st (fun _ kz => XS.l2dS X1.here hx rfl (hb hby at_29) rfl rfl kz) ?_
  show OGo p.tables e below Φ (T1.setTop (mkF m 30 #[.val (.int xx), .val (.int xy), .val (.long xw), .second, .val (.long ra), .second, .val (.long rb), .second, .val (.long rr), .second, .unset, .unset, .unset] [(.double (FP.l2d rb)), (.double (FP.l2d ra)), (.ref b1), (.ref b1)]))
  obtain ⟨_, T2, L2, X2, hQ2, st2⟩ := own_callSp X1 hx hZ rfl hown (ow3 hw) (ow4 hw) (ow2 hw) (ow5 hw) (by decide) (rm2 l Z a0 hw [] b1 (FP.l2d ra) (FP.l2d rb) (.double 0) (.double 0) h1 n0 Zs1 A1 gb1 F1_15 F1_17) e1 (W := 1) (by decide) (by decide) (by decide) (by decide) (pc := 30) (ls := #[.val (.int xx), .val (.int xy), .val (.long xw), .second, .val (.long ra), .second, .val (.long rb), .second, .val (.long rr), .second, .unset, .unset, .unset]) (stk := [(.double (FP.l2d rb)), (.double (FP.l2d ra)), (.ref b1), (.ref b1)]) (by rw [hml]; rfl) (a := b1) (argsL := [(.double (FP.l2d ra)), (.double (FP.l2d rb))]) (rest := [(.ref b1)]) (lenOf pd1 rfl) rfl rfl (Nat.le_of_eq rfl) (hb hby at_30)
  obtain ⟨rfl, Nq2, Kq2, Eq2, Fq2_0, Fq2_1⟩ := hQ2
  have N2 := Fr.app N0 Nq2
  have Zs2 : n0 ≤ T2.heap.size := Nat.le_trans Zs1 Kq2.1
  refine OGo.st st2 ?_
  show OGo p.tables e below Φ (T2.setTop (mkF m 33 #[.val (.int xx), .val (.int xy), .val (.long xw), .second, .val (.long ra), .second, .val (.long rb), .second, .val (.long rr), .second, .unset, .unset, .unset] [(.ref b1)]))
  refine OGo.st (fun _ kz => XS.astore X2.here hx rfl (hb hby at_33) rfl rfl (l' := #[.val (.int xx), .val (.int xy), .val (.long xw), .second, .val (.long ra), .second, .val (.long rb), .second, .val (.long rr), .second, .val (.ref b1), .unset, .unset]) rfl kz) ?_
  show OGo p.tables e below Φ (T2.setTop (mkF m 35 #[.val (.int xx), .val (.int xy), .val (.long xw), .second, .val (.long ra), .second, .val (.long rb), .second, .val (.long rr), .second, .val (.ref b1), .unset, .unset] []))
  refine OGo.st (fun _ kz => XT.lload X2.here hx rfl (hb hby at_35) rfl kz) ?_
  show OGo p.tables e below Φ (T2.setTop (mkF m 37 #[.val (.int xx), .val (.int xy), .val (.long xw), .second, .val (.long ra), .second, .val (.long rb), .second, .val (.long rr), .second, .val (.ref b1), .unset, .unset] [(.long ra)]))
  refine OGo.st (fun _ kz => XT.lload X2.here hx rfl (hb hby at_37) rfl kz) ?_
  show OGo p.tables e below Φ (T2.setTop (mkF m 39 #[.val (.int xx), .val (.int xy), .val (.long xw), .second, .val (.long ra), .second, .val (.long rb), .second, .val (.long rr), .second, .val (.ref b1), .unset, .unset] [(.long rb), (.long ra)]))
  refine OGo.st (fun _ kz => XT.lload X2.here hx rfl (hb hby at_39) rfl kz) ?_
  show OGo p.tables e below Φ (T2.setTop (mkF m 41 #[.val (.int xx), .val (.int xy), .val (.long xw), .second, .val (.long ra), .second, .val (.long rb), .second, .val (.long rr), .second, .val (.ref b1), .unset, .unset] [(.long rr), (.long rb), (.long ra)]))
  refine OGo.st (fun _ kz => XT.lmul X2.here hx rfl (hb hby at_41) rfl kz) ?_
  show OGo p.tables e below Φ (T2.setTop (mkF m 42 #[.val (.int xx), .val (.int xy), .val (.long xw), .second, .val (.long ra), .second, .val (.long rb), .second, .val (.long rr), .second, .val (.ref b1), .unset, .unset] [(.long (rb * rr)), (.long ra)]))
  refine OGo.st (fun _ kz => XT.ladd X2.here hx rfl (hb hby at_42) rfl kz) ?_
  show OGo p.tables e below Φ (T2.setTop (mkF m 43 #[.val (.int xx), .val (.int xy), .val (.long xw), .second, .val (.long ra), .second, .val (.long rb), .second, .val (.long rr), .second, .val (.ref b1), .unset, .unset] [(.long (ra + (rb * rr)))]))
  refine OGo.st (fun _ kz => XS.l2dS X2.here hx rfl (hb hby at_43) rfl rfl kz) ?_
  show OGo p.tables e below Φ (T2.setTop (mkF m 44 #[.val (.int xx), .val (.int xy), .val (.long xw), .second, .val (.long ra), .second, .val (.long rb), .second, .val (.long rr), .second, .val (.ref b1), .unset, .unset] [(.double (FP.l2d (ra + (rb * rr))))]))
  refine OGo.st (fun _ kz => XS.dstore X2.here hx rfl (hb hby at_44) rfl (l' := #[.val (.int xx), .val (.int xy), .val (.long xw), .second, .val (.long ra), .second, .val (.long rb), .second, .val (.long rr), .second, .val (.ref b1), .val (.double (FP.l2d (ra + (rb * rr)))), .second]) rfl kz) ?_
  show OGo p.tables e below Φ (T2.setTop (mkF m 46 #[.val (.int xx), .val (.int xy), .val (.long xw), .second, .val (.long ra), .second, .val (.long rb), .second, .val (.long rr), .second, .val (.ref b1), .val (.double (FP.l2d (ra + (rb * rr)))), .second] []))
  refine OGo.st (fun _ kz => XS.aload X2.here hx rfl (hb hby at_46) rfl rfl kz) ?_
  show OGo p.tables e below Φ (T2.setTop (mkF m 48 #[.val (.int xx), .val (.int xy), .val (.long xw), .second, .val (.long ra), .second, .val (.long rb), .second, .val (.long rr), .second, .val (.ref b1), .val (.double (FP.l2d (ra + (rb * rr)))), .second] [(.ref b1)]))
  refine OGo.st (fun _ kz => XT.lload X2.here hx rfl (hb hby at_48) rfl kz) ?_
  show OGo p.tables e below Φ (T2.setTop (mkF m 50 #[.val (.int xx), .val (.int xy), .val (.long xw), .second, .val (.long ra), .second, .val (.long rb), .second, .val (.long rr), .second, .val (.ref b1), .val (.double (FP.l2d (ra + (rb * rr)))), .second] [(.long rr), (.ref b1)]))
  obtain ⟨_, T3, L3, X3, hQ3, st3⟩ := own_callVi X2 hx hZ hown (ow18 hw) (ow19 hw) (notFace_of_selects (args := #[]) (mvT hZ (ow21 hw))) (ow21 hw) (ow20 hw) (ow2 hw) (ow22 hw) (by decide) (rm3 l Z a0 hw [] b1 (FP.l2d ra) (FP.l2d rb) rr T2.heap n0 Zs2 Fq2_0 Fq2_1 hS.2 (nn_w hS.1)) rfl (W := 0) (by decide) (by decide) (by decide) (by decide) Eq2 (pc := 50) (ls := #[.val (.int xx), .val (.int xy), .val (.long xw), .second, .val (.long ra), .second, .val (.long rb), .second, .val (.long rr), .second, .val (.ref b1), .val (.double (FP.l2d (ra + (rb * rr)))), .second]) (stk := [(.long rr), (.ref b1)]) (by rw [hml]; rfl) (argsL := [(.long rr)]) (rest := []) (lenOf pd2 rfl) rfl rfl (Nat.le_of_eq rfl) (hb hby at_50)
  obtain ⟨rfl, Nq3, e3⟩ := hQ3
  have N3 := Fr.app N2 Nq3
  refine OGo.st st3 ?_
  show OGo p.tables e below Φ (T3.setTop (mkF m 53 #[.val (.int xx), .val (.int xy), .val (.long xw), .second, .val (.long ra), .second, .val (.long rb), .second, .val (.long rr), .second, .val (.ref b1), .val (.double (FP.l2d (ra + (rb * rr)))), .second] [(.double (FP.dadd (FP.l2d ra) (FP.dmul (FP.l2d rb) (FP.l2d rr))))]))
  refine OGo.st (fun _ kz => XS.dload X3.here hx rfl (hb hby at_53) rfl kz) ?_
  show OGo p.tables e below Φ (T3.setTop (mkF m 55 #[.val (.int xx), .val (.int xy), .val (.long xw), .second, .val (.long ra), .second, .val (.long rb), .second, .val (.long rr), .second, .val (.ref b1), .val (.double (FP.l2d (ra + (rb * rr)))), .second] [(.double (FP.l2d (ra + (rb * rr)))), (.double (FP.dadd (FP.l2d ra) (FP.dmul (FP.l2d rb) (FP.l2d rr))))]))
  refine OGo.st (fun _ kz => XS.dcmpS X3.here hx rfl (hb hby at_55) rfl (dcmpV_eq hS.1 (nn_w hS.1) .l) kz) ?_
  show OGo p.tables e below Φ (T3.setTop (mkF m 56 #[.val (.int xx), .val (.int xy), .val (.long xw), .second, .val (.long ra), .second, .val (.long rb), .second, .val (.long rr), .second, .val (.ref b1), .val (.double (FP.l2d (ra + (rb * rr)))), .second] [(.int (0 : Int32))]))
  refine OGo.st (fun _ kz => XS.ifNo X3.here hx rfl (hb hby at_56) rfl (XT.i0_ne_f (by decide)) kz) ?_
  show OGo p.tables e below Φ (T3.setTop (mkF m 59 #[.val (.int xx), .val (.int xy), .val (.long xw), .second, .val (.long ra), .second, .val (.long rb), .second, .val (.long rr), .second, .val (.ref b1), .val (.double (FP.l2d (ra + (rb * rr)))), .second] []))
  refine OGo.st (fun _ kz => XS.iconst X3.here hx rfl (hb hby at_59) kz) ?_
  show OGo p.tables e below Φ (T3.setTop (mkF m 60 #[.val (.int xx), .val (.int xy), .val (.long xw), .second, .val (.long ra), .second, .val (.long rb), .second, .val (.long rr), .second, .val (.ref b1), .val (.double (FP.l2d (ra + (rb * rr)))), .second] [(.int (1 : Int32))]))
  refine OGo.st (fun _ kz => XS.goto X3.here hx rfl (pc0 := 60) (pc' := 64) rfl (hb hby at_60) (by decide) (by decide) kz) ?_
  show OGo p.tables e below Φ (T3.setTop (mkF m 64 #[.val (.int xx), .val (.int xy), .val (.long xw), .second, .val (.long ra), .second, .val (.long rb), .second, .val (.long rr), .second, .val (.ref b1), .val (.double (FP.l2d (ra + (rb * rr)))), .second] [(.int (1 : Int32))]))
  refine OGo.fin X3 hlk (v := (some (.int (1 : Int32)))) (fun h => by rw [hret] at h; cases h) (by decide) (by decide) (fun fs hr => X3.ireturnOut hx hret rfl (by simp) (hb hby at_64) hr) fun U eU hF => hΦ _ _ _ ?_ hF
  rw [eU, e3]
  show Q_rm0 Z xx xy xw h0 n0 _ _ _
  exact ⟨rfl, N3⟩

set_option maxRecDepth 65536 in
set_option maxHeartbeats 40000000 in
theorem comes_1 {Post : Tables → Env → Array Value → State → Outcome → State → Prop} (hpost : ∀ tb e args s v u, (limb_1_1.after args s (.returned v) u = true ∧ limb_1_2.after args s (.returned v) u = true ∧ True) → FrameEnd s (.returned v) u (Jvm.fieldLocs frame_1_writes args s ++ Jvm.arrayLocs frame_1_arrays args s ++ Jvm.staticLocs frame_1_statics s) 16 128 → Post tb e args s (.returned v) u) :
    ArmFor flags0 classFile x code maxLocals ret World_1 tables_1 room_1 Calls_1 rest_1 Pre_1 Post := by
  intro l hfl _ _ p e ha hc hk s m args below hf hA hF happ hP
  obtain ⟨hcalls, hrest, hpre⟩ := hP
  obtain ⟨-, -, -, hnamed, -, -, -, hat⟩ := (Spec.applies_iff hf).mp happ
  obtain ⟨hg, hn⟩ := and_e (Cond.before_iff.mp (show (Jvm.Cond.and given_1 narrow_1).before args s = true from hpre))
  obtain ⟨g0, r0⟩ := and_e hg
  obtain ⟨k0, r1⟩ := and_e r0
  obtain ⟨k1, r2⟩ := and_e r1
  have k2 := r2
  obtain ⟨w0, w1, w2, rfl⟩ : ∃ w0 w1 w2 : Value, args = #[w0, w1, w2] := by
    have hs : args.size = 3 := by simpa [Cond.value, given_1] using g0
    obtain ⟨L⟩ := args
    match L, hs with
    | [w0, w1, w2], _ => exact ⟨w0, w1, w2, rfl⟩
  have hw := fun d (hd : d ∈ tables_1) => atoms_spec (ws := Jvm.Cond.code x code maxLocals ret :: tables_1) hat d (List.mem_cons_of_mem _ hd)
  have hfit : Fit s := fun {y c} hc i hi => by
    obtain ⟨ha, rfl⟩ := Array.getElem?_eq_some_iff.mp hc
    have q := List.all_eq_true.mp ((Array.all_eq_true_iff_forall_mem.mp hF) _ (Array.getElem_mem ha)) i (List.mem_range.mpr hi)
    simpa [Array.getElem?_eq_getElem hi] using q
  obtain ⟨i0, ei0⟩ := is_v k0
  obtain rfl : w0 = (.int i0) := Option.some.inj ei0
  obtain ⟨i1, ei1⟩ := is_v k1
  obtain rfl : w1 = (.int i1) := Option.some.inj ei1
  obtain ⟨i2, ei2⟩ := isL_v k2
  obtain rfl : w2 = (.long i2) := Option.some.inj ei2
  obtain ⟨n, o, h1, h2, h3, _, L, rfl, ⟨rfl, N⟩, hq⟩ := rm0 l s _ hw tables_1 i0 i1 i2  s.heap s.heap.size (Nat.le_refl _)  p e ha hc hk s m _ below hf ((Spec.applies_iff_loose hf).mp happ).1 ⟨rfl, State.Warmed39.refl s, rfl⟩ trivial
  refine ⟨n, _, h1, h2, h3, hpost _ _ _ _ _ _ ⟨Cond.after_iff.mpr rfl, Cond.after_iff.mpr (eq_i res_at (Term.int_eval (1)) rfl), trivial⟩ ⟨hq.1, hq.2.1, (hq.2.2.sift fun y hy => Or.inr (N y hy)).mono (by decide) (by decide)⟩⟩
theorem main_1_1 : Claimed_1_1 := comes_1 fun _ _ _ _ _ _ h hF => ⟨h.1, hF⟩
theorem main_1_2 : Claimed_1_2 := comes_1 fun _ _ _ _ _ _ h hF => ⟨h.2.1, hF⟩
end Jvm.Pilot.@@N@@
namespace Jvm.Pilot.@@N@@
open Jvm Jvm.ClassFile Sem Op Lib Jvm.Free Jvm.Stand Jvm.Pilot.@@N@@.Jvm.D
/-! MADE BY PROGRAM (witnessworld.py) out of the Statement's table words and the real class files: 10 classes; the members and pool entries that the words name. The judged class is class 1, her method 1. -/
namespace start1
open Jvm.ClassFile
def u (s : String) : CpInfo := .utf8 (stringToUtf16 s)
/-- a pool by its gaps: so many unusable entries, then the entry; so many at the end -/
def gap : Nat → List CpInfo → List CpInfo
  | 0, r => r
  | n + 1, r => .unusable :: gap n r
def poolList (es : List (Nat × CpInfo)) (last : Nat) : List CpInfo := es.foldr (fun e r => gap e.1 (e.2 :: r)) (gap last [])
def pool (es : List (Nat × CpInfo)) (last : Nat) : Array CpInfo := ⟨poolList es last⟩
def fileOf (pool : Array CpInfo) (this : Nat) (attrs : Array Attribute := #[]) (ms : Array MethodInfo := #[]) (fl : Nat := 33) (sup : Nat := 0) (ifs : Array Nat := #[]) (fds : Array FieldInfo := #[]) : ClassFile where
  minorVersion := 0
  majorVersion := 65
  constantPool := pool
  accessFlags := fl
  thisClass := this
  superClass := sup
  interfaces := ifs
  fields := fds
  methods := ms
  attributes := attrs
def plain (name : String) (sup : Option ClassId) : Class where
  name := name
  kind := .ordinary
  loader := none
  accessFlags := 33
  super := sup
  interfaces := #[]
  cf := none
  fields := #[]
  methods := #[]
  instanceTypes := #[]
  staticTypes := #[]
  resolved := #[]
  callSites := []
  init := .initialized
  statics := none
  mirror := none

def pool0 : Array CpInfo := pool [(5, u "<init>"), (0, u "()V"), (1, .class_ 10), (1, u "java/lang/Object")] 113

def k0c0 : Code := { maxStack := 0, maxLocals := 1, code := object_method_1_code, exceptionTable := #[], attributes := #[] }
def k0m0 : Method := { name := "<init>", desc := "()V", sig := { parameters := [], returnType := none }, accessFlags := 1, code := some k0c0 }
/-- java/lang/Object -/
def k0 : Class := { plain "java/lang/Object" none with
  accessFlags := 33
  interfaces := #[]
  cf := some (fileOf pool0 8 #[] #[{ accessFlags := 1, nameIndex := 5, descriptorIndex := 6, attributes := #[] }] 33 0 #[] #[])
  fields := #[]
  methods := #[k0m0]
  instanceTypes := #[]
  staticTypes := #[]
  resolved := Array.replicate 124 none
  statics := none }

def pool1 : Array CpInfo := pool [(2, .class_ 4), (1, u "java/lang/Object"), (0, u "<init>"), (0, u "()V"), (0, .class_ 8), (0, u "com/example/crossweave/crossweave/TimingLine"), (0, .methodref 7 10), (0, .nameAndType 5 11), (0, u "(DD)V"), (0, .methodref 7 13), (0, .nameAndType 14 15), (0, u "seconds"), (0, u "(J)D"), (0, .class_ 17), (0, u "com/example/crossweave/crossweave/TimingLineSecondsPinLaw"), (2, u "law"), (0, u "(IIJ)Z")] 3

def k1m0 : Method := { name := "<init>", desc := "()V", sig := { parameters := [], returnType := none }, accessFlags := 1, code := none }
def k1c1 : Code := { maxStack := 6, maxLocals := 13, code := code, exceptionTable := #[], attributes := #[] }
def k1m1 : Method := { name := "law", desc := "(IIJ)Z", sig := { parameters := [.int, .int, .long], returnType := some .boolean }, accessFlags := 9, code := some k1c1 }
/-- com/example/crossweave/crossweave/TimingLineSecondsPinLaw -/
def k1 : Class := { plain "com/example/crossweave/crossweave/TimingLineSecondsPinLaw" (some 0) with
  accessFlags := 49
  interfaces := #[]
  cf := some (fileOf pool1 16 #[] #[{ accessFlags := 1, nameIndex := 5, descriptorIndex := 6, attributes := #[] }, { accessFlags := 9, nameIndex := 20, descriptorIndex := 21, attributes := #[] }] 49 2 #[] #[])
  fields := #[]
  methods := #[k1m0, k1m1]
  instanceTypes := #[]
  staticTypes := #[]
  resolved := Array.replicate 25 none
  statics := none }

def pool2 : Array CpInfo := pool [(1, .methodref 2 3), (0, .class_ 4), (0, .nameAndType 5 6), (0, u "java/lang/Object"), (0, u "<init>"), (0, u "()V"), (0, .class_ 8), (0, u "java/lang/Record")] 13

def k2c0 : Code := { maxStack := 1, maxLocals := 1, code := jdk_30_method_1_code, exceptionTable := #[], attributes := #[] }
def k2m0 : Method := { name := "<init>", desc := "()V", sig := { parameters := [], returnType := none }, accessFlags := 4, code := some k2c0 }
/-- java/lang/Record -/
def k2 : Class := { plain "java/lang/Record" (some 0) with
  accessFlags := 1057
  interfaces := #[]
  cf := some (fileOf pool2 7 #[] #[{ accessFlags := 4, nameIndex := 5, descriptorIndex := 6, attributes := #[] }] 1057 2 #[] #[])
  fields := #[]
  methods := #[k2m0]
  instanceTypes := #[]
  staticTypes := #[]
  resolved := Array.replicate 22 none
  statics := none }

def pool3 : Array CpInfo := pool [(1, .methodref 2 3), (0, .class_ 4), (0, .nameAndType 5 6), (0, u "java/lang/Record"), (0, u "<init>"), (0, u "()V"), (0, .fieldref 8 9), (0, .class_ 10), (0, .nameAndType 11 12), (0, u "com/example/crossweave/crossweave/TimingLine"), (0, u "fixed"), (0, u "D"), (0, .fieldref 8 14), (0, .nameAndType 15 12), (0, u "perRow"), (30, .class_ 47), (0, u "com/example/crossweave/crossweave/TimingLine$Timing"), (6, u "seconds"), (3, u "(DD)V"), (6, u "(J)D")] 46

def k3c0 : Code := { maxStack := 3, maxLocals := 5, code := prog_7_method_1_code, exceptionTable := #[], attributes := #[] }
def k3m0 : Method := { name := "<init>", desc := "(DD)V", sig := { parameters := [.double, .double], returnType := none }, accessFlags := 0, code := some k3c0 }
def k3c1 : Code := { maxStack := 6, maxLocals := 3, code := prog_7_method_3_code, exceptionTable := #[], attributes := #[] }
def k3m1 : Method := { name := "seconds", desc := "(J)D", sig := { parameters := [.long], returnType := some .double }, accessFlags := 0, code := some k3c1 }
/-- com/example/crossweave/crossweave/TimingLine -/
def k3 : Class := { plain "com/example/crossweave/crossweave/TimingLine" (some 2) with
  accessFlags := 48
  interfaces := #[]
  cf := some (fileOf pool3 8 #[.nestMembers #[46]] #[{ accessFlags := 0, nameIndex := 5, descriptorIndex := 58, attributes := #[] }, { accessFlags := 0, nameIndex := 54, descriptorIndex := 65, attributes := #[] }] 48 2 #[] #[{ accessFlags := 18, nameIndex := 11, descriptorIndex := 12, attributes := #[] }, { accessFlags := 18, nameIndex := 15, descriptorIndex := 12, attributes := #[] }])
  fields := #[{ name := "fixed", type := .double, accessFlags := 18, slot := 0, constantValue := 0 }, { name := "perRow", type := .double, accessFlags := 18, slot := 1, constantValue := 0 }]
  methods := #[k3m0, k3m1]
  instanceTypes := #[.double, .double]
  staticTypes := #[]
  resolved := Array.replicate 112 none
  statics := none }

def pool4 : Array CpInfo := pool [(1, u "java/lang/Cloneable"), (0, .class_ 1), (0, u "java/lang/Object"), (0, .class_ 3)] 3

/-- java/lang/Cloneable -/
def k4 : Class := { plain "java/lang/Cloneable" (some 0) with
  accessFlags := 1537
  interfaces := #[]
  cf := some (fileOf pool4 2 #[] #[] 1537 4 #[] #[])
  fields := #[]
  methods := #[]
  instanceTypes := #[]
  staticTypes := #[]
  resolved := Array.replicate 8 none
  statics := none }

def pool5 : Array CpInfo := pool [(1, u "java/io/Serializable"), (0, .class_ 1), (0, u "java/lang/Object"), (0, .class_ 3)] 3

/-- java/io/Serializable -/
def k5 : Class := { plain "java/io/Serializable" (some 0) with
  accessFlags := 1537
  interfaces := #[]
  cf := some (fileOf pool5 2 #[] #[] 1537 4 #[] #[])
  fields := #[]
  methods := #[]
  instanceTypes := #[]
  staticTypes := #[]
  resolved := Array.replicate 8 none
  statics := none }

/-- the primitive byte -/
def k6 : Class := { plain "byte" none with kind := .primitive 'B', accessFlags := 0x411 }
/-- [B -/
def k7 : Class := { plain "[B" (some 0) with kind := .array 6 .byte, interfaces := #[4, 5], accessFlags := 1041 }

/-- the primitive int -/
def k8 : Class := { plain "int" none with kind := .primitive 'I', accessFlags := 0x411 }
/-- [I -/
def k9 : Class := { plain "[I" (some 0) with kind := .array 8 .int, interfaces := #[4, 5], accessFlags := 1041 }

def heap : Heap := #[]
def classes : Array Class := #[k0, k1, k2, k3, k4, k5, k6, k7, k8, k9]
def interned : List (Array UInt16 × Addr) := []
def slotsUsed : Nat := 0
def theMethod : MethodId := ⟨1, 1⟩
def args0 : Array Value := #[.int 5, .int 5, .long 5]
def aboutOver (below : List Frame) : State where
  vm := { classes := classes, interned := interned.toArray }
  heap := heap
  slotsUsed := slotsUsed
  threads := #[{ frames := .invoking theMethod args0 :: below }]
def below0 : List Frame := [.native { method := ⟨0, 0⟩, args := #[] }]
def about1 : State := aboutOver below0
def p0 : Program := .bare "" "" ""
def e0 : Env := launch0.env 0 0 0
theorem w_frames : about1.frames = Frame.invoking theMethod args0 :: below0 := rfl
set_option maxRecDepth 65536 in
theorem w_args : argsFit about1.vm theMethod args0 = true := by decide +kernel
set_option maxRecDepth 65536 in
theorem w_heap : heapFits about1 = true := by decide +kernel
set_option maxRecDepth 65536 in
theorem w_runnable : about1.curStatus? = some .runnable := by decide +kernel
set_option maxRecDepth 65536 in
theorem w_alone : about1.alone = true := by decide +kernel
set_option maxRecDepth 65536 in
theorem w_named : about1.methodNamed? x = some theMethod := by decide +kernel
set_option maxRecDepth 65536 in
theorem w_hears : about1.hears theMethod below0 = true := by decide +kernel
set_option maxRecDepth 65536 in
theorem w_ripe : about1.ripe theMethod args0 below0 = true := by decide +kernel
theorem w_running : about1.status = .running := rfl
set_option maxRecDepth 65536 in
theorem w_room : about1.hasRoom e0.platform room_1 = true :=
  launch0.hasRoom_least _ room_1 (by decide +kernel) (by decide +kernel) (by decide +kernel) (by decide +kernel) (by decide +kernel) (by decide +kernel)
theorem allAtoms_all (ts : List Jvm.Cond) (a : Array Jvm.Value) (st : Jvm.State) : (allAtoms ts).before a st = ts.all (fun c => c.before a st) := by
  induction ts with
  | nil => rfl
  | cons c t ih =>
    show (Jvm.Cond.and c (allAtoms t)).before a st = _
    rw [Jvm.Cond.before_and, ih, List.all_cons]
def words1 : List Jvm.Cond := Jvm.Cond.code x code maxLocals ret :: tables_1
/-- a 'code' word, met by the world's own term for the bytes: nothing is compared byte by byte -/
theorem code_word {y : MethodName} {bytes : ByteArray} {mx : Nat} {rt : Option FieldType} {a : Array Value} {s : State} {m : MethodId} {meth : Method} {c : Code} (h1 : s.methodNamed? y = some m) (h2 : s.vm.method? m = some meth) (h3 : meth.code = some c) (h4 : c.code = bytes)
    (h5 : (c.maxLocals == mx && c.exceptionTable.isEmpty && decide (c.maxStack ≤ mostOperands) && decide (meth.sig.returnType = rt) && !meth.locks && decide (parseMethodDescriptor y.desc = some meth.sig)) = true) : (Jvm.Cond.code y bytes mx rt).before a s = true := by
  simp only [Bool.and_eq_true, beq_iff_eq, Bool.not_eq_true', decide_eq_true_eq] at h5
  obtain ⟨⟨⟨⟨⟨g1, g2⟩, g3⟩, g4⟩, g5⟩, g6⟩ := h5
  simp [Cond.before, Cond.holds, Cond.value, h1, h2, h3, h4, g1, g2, g3, g4, g5, g6]
def isCode : Jvm.Cond → Bool
  | .code _ _ _ _ => true
  | _ => false
theorem all_split {L : List Jvm.Cond} {P : Jvm.Cond → Bool} (h1 : L.all (fun c => isCode c || P c) = true) (h2 : ∀ c ∈ L.filter isCode, P c = true) : L.all P = true := by
  refine List.all_eq_true.mpr fun c hc => ?_
  have h := List.all_eq_true.mp h1 c hc
  rcases Bool.eq_false_or_eq_true (isCode c) with hi | hi
  · exact h2 c (List.mem_filter.mpr ⟨hc, hi⟩)
  · simpa [hi] using h
set_option maxRecDepth 65536 in
theorem w_c0 : (Jvm.Cond.code x code maxLocals ret).before args0 about1 = true := code_word (m := ⟨1, 1⟩) (meth := k1m1) (c := k1c1) (by decide +kernel) rfl rfl rfl (by decide +kernel)
set_option maxRecDepth 65536 in
theorem w_c1 : (Jvm.Cond.code ({ cls := "com/example/crossweave/crossweave/TimingLine", name := "<init>", desc := "(DD)V" } : Jvm.MethodName) prog_7_method_1_code (5 : Nat) (Option.none : Option Jvm.ClassFile.FieldType)).before args0 about1 = true := code_word (m := ⟨3, 0⟩) (meth := k3m0) (c := k3c0) (by decide +kernel) rfl rfl rfl (by decide +kernel)
set_option maxRecDepth 65536 in
theorem w_c2 : (Jvm.Cond.code ({ cls := "java/lang/Record", name := "<init>", desc := "()V" } : Jvm.MethodName) jdk_30_method_1_code (1 : Nat) (Option.none : Option Jvm.ClassFile.FieldType)).before args0 about1 = true := code_word (m := ⟨2, 0⟩) (meth := k2m0) (c := k2c0) (by decide +kernel) rfl rfl rfl (by decide +kernel)
set_option maxRecDepth 65536 in
theorem w_c3 : (Jvm.Cond.code ({ cls := "java/lang/Object", name := "<init>", desc := "()V" } : Jvm.MethodName) object_method_1_code (1 : Nat) (Option.none : Option Jvm.ClassFile.FieldType)).before args0 about1 = true := code_word (m := ⟨0, 0⟩) (meth := k0m0) (c := k0c0) (by decide +kernel) rfl rfl rfl (by decide +kernel)
set_option maxRecDepth 65536 in
theorem w_c4 : (Jvm.Cond.code ({ cls := "com/example/crossweave/crossweave/TimingLine", name := "seconds", desc := "(J)D" } : Jvm.MethodName) prog_7_method_3_code (3 : Nat) (Option.some Jvm.ClassFile.FieldType.double)).before args0 about1 = true := code_word (m := ⟨3, 1⟩) (meth := k3m1) (c := k3c1) (by decide +kernel) rfl rfl rfl (by decide +kernel)
def codes1 : List Jvm.Cond := [Jvm.Cond.code x code maxLocals ret, Jvm.Cond.code ({ cls := "com/example/crossweave/crossweave/TimingLine", name := "<init>", desc := "(DD)V" } : Jvm.MethodName) prog_7_method_1_code (5 : Nat) (Option.none : Option Jvm.ClassFile.FieldType), Jvm.Cond.code ({ cls := "java/lang/Record", name := "<init>", desc := "()V" } : Jvm.MethodName) jdk_30_method_1_code (1 : Nat) (Option.none : Option Jvm.ClassFile.FieldType), Jvm.Cond.code ({ cls := "java/lang/Object", name := "<init>", desc := "()V" } : Jvm.MethodName) object_method_1_code (1 : Nat) (Option.none : Option Jvm.ClassFile.FieldType), Jvm.Cond.code ({ cls := "com/example/crossweave/crossweave/TimingLine", name := "seconds", desc := "(J)D" } : Jvm.MethodName) prog_7_method_3_code (3 : Nat) (Option.some Jvm.ClassFile.FieldType.double)]
set_option maxRecDepth 65536 in
theorem codes_eq : words1.filter isCode = codes1 := rfl
theorem w_codes : ∀ c ∈ words1.filter isCode, c.before args0 about1 = true := by
  rw [codes_eq]
  intro c hc
  simp only [codes1, List.mem_cons, List.not_mem_nil, or_false] at hc
  rcases hc with rfl | rfl | rfl | rfl | rfl
  · exact w_c0
  · exact w_c1
  · exact w_c2
  · exact w_c3
  · exact w_c4
set_option maxRecDepth 65536 in
theorem w_t1 : words1.all (fun c => isCode c || c.before args0 about1) = true := by decide +kernel
theorem w_tables : (allAtoms (Jvm.Cond.code x code maxLocals ret :: tables_1)).before args0 about1 = true := by
  rw [allAtoms_all]
  show words1.all (fun c => c.before args0 about1) = true
  refine all_split ?_ w_codes
  rw [w_t1]
set_option maxRecDepth 65536 in
theorem w_case : (Jvm.Cond.and given_1 narrow_1).before args0 about1 = true := by decide +kernel
theorem w_applies : (headSpec (Jvm.Cond.code x code maxLocals ret :: tables_1) room_1).applies x e0.platform about1 = true :=
  (Spec.applies_iff w_frames).mpr ⟨w_running, w_runnable, w_alone, w_named, w_hears, w_ripe, w_room, w_tables⟩
theorem atStart : AtStart classFile x code maxLocals ret World_1 tables_1 room_1 Calls_1 rest_1 Pre_1 launch0 p0 e0 about1 theMethod args0 below0 :=
  ⟨lists_1, trivial, launch0.admits_env _ _ _, launch0.least_env, fairChoices_fair.cas, fairChoices_fair.clock, w_frames, w_args, w_heap, w_applies, trivial, trivial, w_case⟩
end start1
theorem witness_1 : WitnessClaimed_1 := ⟨start1.p0, start1.e0, start1.about1, start1.theMethod, start1.args0, start1.below0, start1.atStart⟩
end Jvm.Pilot.@@N@@
