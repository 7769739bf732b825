import JvmDerived
import JvmDerived.Pilot.@@N@@Statement
import JvmDerived.Pilot.@@N@@Code
set_option linter.unusedVariables false
set_option linter.unusedSimpArgs false
namespace Jvm.Pilot.@@N@@
open Jvm Jvm.ClassFile Sem Op Lib Jvm.Free Jvm.Stand Jvm.LawKit Jvm.RoadKit Bundle Jvm.Pilot.@@N@@.Jvm.D
section Own
variable {p : Program} {l : Launch} {e : Env} {R : Room} {s : State} {m : MethodId} {args : Array Value} {below : List Frame} {meth : Method} {c : Code} {T : State} {locs : List Loc} {cells slots : Nat} {Z : State} {a0 : Array Value} {h : Heap} {Φ : Outcome → State → Prop}
/-- what is left of a walk: from S the invocation ends as Φ says -/
def OGo (tb : Tables) (e : Env) (below : List Frame) (Φ : Outcome → State → Prop) (S : State) : Prop := ∃ s₂ o, Steps tb e below S s₂ ∧ s₂.status = .running ∧ Ended s₂ below o ∧ Φ o s₂
theorem OGo.st {tb : Tables} {S S' : State} (h : ∀ t, Steps tb e below S' t → Steps tb e below S t) (g : OGo tb e below Φ S') : OGo tb e below Φ S := by
  obtain ⟨s₂, o, h1, r⟩ := g
  exact ⟨s₂, o, h _ h1, r⟩
theorem OGo.fin (X : Stand p l e R s m args below meth c T locs cells slots) (hlk : meth.locks = false) {v : Option Value} (hv : meth.sig.returnType = none → v = none) {g : JFrame} {k n : Nat} (hk : cells ≤ k) (hn : slots ≤ n)
    (st : ∀ fs, (∀ (f : JFrame) (acts : List Action), f.method = m → f.locked = none → f.entered = [] → (doReturn e (T.setTop f) acts v).1 = T.setFrames fs) → Steps p.tables e below (T.setTop g) (T.setFrames fs))
    (hq : ∀ U, U.heap = T.heap → FrameEnd s (.returned v) U locs k n → Φ (.returned v) U) : OGo p.tables e below Φ (T.setTop g) := by
  obtain ⟨fs, hr, hrun, hended, hW, hsame⟩ := X.leave (v := v) hv hlk
  exact ⟨_, _, st fs hr, hrun, hended, hq _ rfl ⟨⟨_, rfl⟩, hW, hsame.mono hk hn⟩⟩
/-- a contract: what every body's theorem says -/
abbrev OCon (l : Launch) (Z : State) (y : MethodName) (bytes : ByteArray) (maxL : Nat) (ret : Option FieldType) (ws : List Jvm.Cond) (rm : Room) (as' : Array Value) (h0 : Heap) (Q : Option Value → Heap → List Loc → Prop) : Prop :=
  MetFree l y (head1 (Jvm.Cond.code y bytes maxL ret :: ws) rm) (fun a U => a = as' ∧ Z.Warmed39 U.vm ∧ U.heap = h0) (fun _ _ _ _ _ => True) (fun _ U o U' => ∃ v L, o = .returned v ∧ Q v U'.heap L ∧ FrameEnd U o U' L rm.cells rm.slots)
theorem OCon.of {y : MethodName} {bytes : ByteArray} {maxL : Nat} {ret : Option FieldType} {ws : List Jvm.Cond} {rm : Room} {as' : Array Value} {h0 : Heap} {Q : Option Value → Heap → List Loc → Prop} (hpn : plainName y.cls = true)
    (H : ∀ (p : Program) (e : Env) (s : State) (m : MethodId) (below : List Frame) (meth : Method) (c : Code) (s₁ : State) (Φ : Outcome → State → Prop), Stand p l e rm s m as' below meth c s₁ [] 0 0 → p.tables.exec = Jvm.exec → c.code = bytes → c.maxLocals = maxL → s.vm.findClass y.cls = some m.cls → meth.name = y.name → meth.sig.returnType = ret → meth.locks = false → Z.Warmed39 s.vm → s₁.heap = h0 →
      (∀ v L U, Q v U.heap L → FrameEnd s (.returned v) U L rm.cells rm.slots → Φ (.returned v) U) → OGo p.tables e below Φ (s₁.setTop (entryFrame m as' maxL))) :
    OCon l Z y bytes maxL ret ws rm as' h0 Q := by
  refine MetFree.of_bodySF (plainFor_of_name hpn) hisR ?_
  intro p e s m args below meth c s₁ Bd hml0 hP hK
  obtain ⟨rfl, hZ, hh⟩ := hP
  have e0 : s₁.heap = h0 := by rw [← hh, Bd.state]; rfl
  exact H p e s m below meth c s₁ _ (Stand.of_body Bd) Bd.exec Bd.bytes hml0 (findClass_of_methodNamed Bd.named) (name_of_methodNamed Bd.named Bd.method).1 Bd.returns Bd.notSynchronized hZ e0 (fun v L U hq hf => ⟨v, L, rfl, hq, hf⟩)
theorem own_callSt (X : Stand p l e R s m args below meth c T locs cells slots) (hx : p.tables.exec = Jvm.exec) (hZ : Z.Warmed39 s.vm) {own : String} {index : Nat} {y : MethodName} {bytes : ByteArray} {maxL : Nat} {ret : Option FieldType} {rm : Room} {as' : Array Value} {Q : Option Value → Heap → List Loc → Prop}
    (hown : s.vm.findClass own = some m.cls) (w1 : (Jvm.Cond.methodLink own index y).before a0 Z = true) (w2 : (Jvm.Cond.static y).before a0 Z = true) (w3 : (Jvm.Cond.initialized y.cls).before a0 Z = true) (w4 : (Jvm.Cond.code y bytes maxL ret).before a0 Z = true) (hy : y.cls ≠ "java/lang/invoke/MethodHandle" ∧ y.cls ≠ "java/lang/invoke/VarHandle")
    (hM : OCon l Z y bytes maxL ret [] rm as' h Q) (eT : T.heap = h) {W : Nat} (hf : rm.frames + 1 ≤ R.frames) (hl : W + (maxL + 11) + rm.locals ≤ R.locals) (hcl : cells + rm.cells ≤ R.cells) (hsl : slots + rm.slots ≤ R.slots)
    {pc : Nat} {ls : Array Slot} {stk : List Value} (hsize : ls.size = c.maxLocals) {argsL rest : List Value} (hlen : ∀ sig, parseMethodDescriptor y.desc = some sig → argsL.length = sig.parameters.length) (has : argsL.toArray = as') (hstack : stk = argsL.reverse ++ rest) (hW : (rest.map fun v => v.category).sum ≤ W)
    (hd : decode c.code pc = .ok (.invokestatic index, 3)) :
    ∃ v T' L, Stand p l e R s m args below meth c T' (locs ++ L) (cells + rm.cells) (slots + rm.slots) ∧ Q v T'.heap L ∧ ∀ target, Steps p.tables e below (T'.setTop (mkF m (pc + 3) ls (v.toList ++ rest))) target → Steps p.tables e below (T.setTop (mkF m pc ls stk)) target := by
  subst has
  obtain ⟨v, vm₁, ⟨T', L', k', n'⟩, -, X', ⟨L, hQ, l1, y1, z1⟩, st⟩ := Jvm.LawKit.callS X hx (y := y) hown (mvT hZ w1) (mvT hZ w2) (mvT hZ w3) (mvT hZ w4) hy (backOf (W := W) hM hZ w4 w3 hf hl) (g := mkF m pc ls stk) rfl hsize (argsL := argsL) (rest := rest) hlen hstack (by simpa using hW) hd (fun _ _ => ⟨rfl, eT, hcl, hsl⟩)
  dsimp only [Pt.U, Pt.locs, Pt.cells, Pt.slots] at X' l1 y1 z1 st hQ
  subst l1 y1 z1
  exact ⟨v, T', L, X', hQ, st⟩
theorem own_callSp (X : Stand p l e R s m args below meth c T locs cells slots) (hx : p.tables.exec = Jvm.exec) (hZ : Z.Warmed39 s.vm) {own : String} {index : Nat} {y : MethodName} {bytes : ByteArray} {maxL : Nat} {rm : Room} {as' : Array Value} {Q : Option Value → Heap → List Loc → Prop}
    (hy1 : y.name = "<init>") (hown : s.vm.findClass own = some m.cls) (w1 : (Jvm.Cond.methodLink own index y).before a0 Z = true) (w2 : (Jvm.Cond.instanceMethod y).before a0 Z = true) (w3 : (Jvm.Cond.initialized y.cls).before a0 Z = true) (w4 : (Jvm.Cond.code y bytes maxL none).before a0 Z = true) (hy : y.cls ≠ "java/lang/invoke/MethodHandle" ∧ y.cls ≠ "java/lang/invoke/VarHandle")
    (hM : OCon l Z y bytes maxL none [] rm as' h Q) (eT : T.heap = h) {W : Nat} (hf : rm.frames + 1 ≤ R.frames) (hl : W + (maxL + 11) + rm.locals ≤ R.locals) (hcl : cells + rm.cells ≤ R.cells) (hsl : slots + rm.slots ≤ R.slots)
    {pc : Nat} {ls : Array Slot} {stk : List Value} (hsize : ls.size = c.maxLocals) {a : Addr} {argsL rest : List Value} (hlen : ∀ sig, parseMethodDescriptor y.desc = some sig → argsL.length = sig.parameters.length) (has : (.ref a :: argsL).toArray = as') (hstack : stk = argsL.reverse ++ .ref a :: rest) (hW : (rest.map fun v => v.category).sum ≤ W)
    (hd : decode c.code pc = .ok (.invokespecial index, 3)) :
    ∃ v T' L, Stand p l e R s m args below meth c T' (locs ++ L) (cells + rm.cells) (slots + rm.slots) ∧ Q v T'.heap L ∧ ∀ target, Steps p.tables e below (T'.setTop (mkF m (pc + 3) ls (v.toList ++ rest))) target → Steps p.tables e below (T.setTop (mkF m pc ls stk)) target := by
  subst has
  obtain ⟨v, vm₁, ⟨T', L', k', n'⟩, -, X', ⟨L, hQ, l1, y1, z1⟩, st⟩ := X.specialBack hx (y := y) hy1 hown (mvT hZ w1) (mvT hZ w2) (mvT hZ w4) hy (backOf (W := W) hM hZ w4 w3 hf hl) (g := mkF m pc ls stk) rfl hsize (Steps.refl _) (a := a) (argsL := argsL) (rest := rest) hlen hstack (by simpa using hW) hd (fun _ _ => ⟨rfl, eT, hcl, hsl⟩)
  dsimp only [Pt.U, Pt.locs, Pt.cells, Pt.slots] at X' l1 y1 z1 st hQ
  subst l1 y1 z1
  exact ⟨v, T', L, X', hQ, fun t k => st.trans k⟩
theorem own_callVi (X : Stand p l e R s m args below meth c T locs cells slots) (hx : p.tables.exec = Jvm.exec) (hZ : Z.Warmed39 s.vm) {own C : String} {index : Nat} {y z : MethodName} {bytes : ByteArray} {maxL : Nat} {ret : Option FieldType} {rm : Room} {as' : Array Value} {Q : Option Value → Heap → List Loc → Prop}
    (hown : s.vm.findClass own = some m.cls) (w1 : (Jvm.Cond.methodLink own index y).before a0 Z = true) (w2 : (Jvm.Cond.declares y).before a0 Z = true) (nf : NotFace s y) (w3 : (Jvm.Cond.selects C y z).before a0 Z = true) (w4 : (Jvm.Cond.instanceMethod z).before a0 Z = true) (w5 : (Jvm.Cond.initialized z.cls).before a0 Z = true) (w6 : (Jvm.Cond.code z bytes maxL ret).before a0 Z = true) (hy : y.cls ≠ "java/lang/invoke/MethodHandle" ∧ y.cls ≠ "java/lang/invoke/VarHandle")
    (hM : OCon l Z z bytes maxL ret [] rm as' h Q) (eT : T.heap = h) {W : Nat} (hf : rm.frames + 1 ≤ R.frames) (hl : W + (maxL + 11) + rm.locals ≤ R.locals) (hcl : cells + rm.cells ≤ R.cells) (hsl : slots + rm.slots ≤ R.slots) {a : Addr} (E : Exa Z h a C)
    {pc : Nat} {ls : Array Slot} {stk : List Value} (hsize : ls.size = c.maxLocals) {argsL rest : List Value} (hlen : ∀ sig, parseMethodDescriptor y.desc = some sig → argsL.length = sig.parameters.length) (has : (.ref a :: argsL).toArray = as') (hstack : stk = argsL.reverse ++ .ref a :: rest) (hW : (rest.map fun v => v.category).sum ≤ W)
    (hd : decode c.code pc = .ok (.invokevirtual index, 3)) :
    ∃ v T' L, Stand p l e R s m args below meth c T' (locs ++ L) (cells + rm.cells) (slots + rm.slots) ∧ Q v T'.heap L ∧ ∀ target, Steps p.tables e below (T'.setTop (mkF m (pc + 3) ls (v.toList ++ rest))) target → Steps p.tables e below (T.setTop (mkF m pc ls stk)) target := by
  subst has
  obtain ⟨cq, kq, qa, qb, qc⟩ := isOf hZ eT E
  obtain ⟨v, vm₁, ⟨T', L', k', n'⟩, -, X', ⟨L, hQ, l1, y1, z1⟩, st⟩ := X.virtualBack hx (y := y) (z := z) hown (mvT hZ w1) (mvT hZ w2) nf (mvT hZ w3) (mvT hZ w4) hy (backOf (W := W) hM hZ w6 w5 hf hl) qa qc (g := mkF m pc ls stk) rfl hsize (Steps.refl _) (argsL := argsL) (rest := rest) hlen hstack (by simpa using hW) hd (fun _ _ => ⟨rfl, eT, hcl, hsl⟩)
  dsimp only [Pt.U, Pt.locs, Pt.cells, Pt.slots] at X' l1 y1 z1 st hQ
  subst l1 y1 z1
  exact ⟨v, T', L, X', hQ, fun t k => st.trans k⟩
theorem own_nz {x : Int32} (q : x = 0 ∨ x = 1) : narrow .boolean (.int x) = .int x := by rcases q with rfl | rfl <;> rfl
theorem own_fz {x : Int32} (q : x = 0 ∨ x = 1) : fits .boolean (.int x) = true := by rcases q with rfl | rfl <;> rfl
theorem own_irr (x : Int32) : ¬ x < x := fun q => absurd (Int32.lt_iff_toInt_lt.mp q) (Int.lt_irrefl _)
theorem own_irrL (x : Int64) : ¬ x < x := fun q => absurd (Int64.lt_iff_toInt_lt.mp q) (Int.lt_irrefl _)
/-- a small int is one of the first n -/
theorem own_small {n : Nat} (hn : n < 2 ^ 31) (x : Int32) (h0 : ¬ x < 0) (h1 : x.toInt < n) : ∃ k : Fin n, x = Int32.ofInt k.val := by
  have h2 : 0 ≤ x.toInt := by
    rcases Int.lt_or_le x.toInt 0 with q | q
    · exact absurd (Int32.lt_iff_toInt_lt.mpr q) h0
    · exact q
  refine ⟨⟨x.toInt.toNat, by omega⟩, ?_⟩
  rw [Int.toNat_of_nonneg h2, Int32.ofInt_toInt]
end Own
theorem ow0 {Z : State} {a0 : Array Value} (hw : ∀ d ∈ tables_1, d.before a0 Z = true) : (Jvm.Cond.classLink "com/example/zonewright/zonewright/storage/RoomGiveBackPinLaw" (7 : Nat) "com/example/zonewright/zonewright/storage/Room").before a0 Z = true := hw _ (List.mem_of_getElem? (i := 0) rfl)
theorem ow1 {Z : State} {a0 : Array Value} (hw : ∀ d ∈ tables_1, d.before a0 Z = true) : (Jvm.Cond.instantiable "com/example/zonewright/zonewright/storage/Room" (2 : Nat)).before a0 Z = true := hw _ (List.mem_of_getElem? (i := 1) rfl)
theorem ow2 {Z : State} {a0 : Array Value} (hw : ∀ d ∈ tables_1, d.before a0 Z = true) : (Jvm.Cond.initialized "com/example/zonewright/zonewright/storage/Room").before a0 Z = true := hw _ (List.mem_of_getElem? (i := 2) rfl)
theorem ow3 {Z : State} {a0 : Array Value} (hw : ∀ d ∈ tables_1, d.before a0 Z = true) : (Jvm.Cond.methodLink "com/example/zonewright/zonewright/storage/RoomGiveBackPinLaw" (9 : Nat) ({ cls := "com/example/zonewright/zonewright/storage/Room", name := "<init>", desc := "(Lcom/example/zonewright/zonewright/storage/PlanIndex;J)V" } : Jvm.MethodName)).before a0 Z = true := hw _ (List.mem_of_getElem? (i := 3) rfl)
theorem ow4 {Z : State} {a0 : Array Value} (hw : ∀ d ∈ tables_1, d.before a0 Z = true) : (Jvm.Cond.instanceMethod ({ cls := "com/example/zonewright/zonewright/storage/Room", name := "<init>", desc := "(Lcom/example/zonewright/zonewright/storage/PlanIndex;J)V" } : Jvm.MethodName)).before a0 Z = true := hw _ (List.mem_of_getElem? (i := 4) rfl)
theorem ow5 {Z : State} {a0 : Array Value} (hw : ∀ d ∈ tables_1, d.before a0 Z = true) : (Jvm.Cond.code ({ cls := "com/example/zonewright/zonewright/storage/Room", name := "<init>", desc := "(Lcom/example/zonewright/zonewright/storage/PlanIndex;J)V" } : Jvm.MethodName) prog_26_method_1_code (4 : Nat) (Option.none : Option Jvm.ClassFile.FieldType)).before a0 Z = true := hw _ (List.mem_of_getElem? (i := 5) rfl)
theorem ow6 {Z : State} {a0 : Array Value} (hw : ∀ d ∈ tables_1, d.before a0 Z = true) : (Jvm.Cond.methodLink "com/example/zonewright/zonewright/storage/Room" (1 : Nat) ({ cls := "java/lang/Object", name := "<init>", desc := "()V" } : Jvm.MethodName)).before a0 Z = true := hw _ (List.mem_of_getElem? (i := 6) rfl)
theorem ow7 {Z : State} {a0 : Array Value} (hw : ∀ d ∈ tables_1, d.before a0 Z = true) : (Jvm.Cond.instanceMethod ({ cls := "java/lang/Object", name := "<init>", desc := "()V" } : Jvm.MethodName)).before a0 Z = true := hw _ (List.mem_of_getElem? (i := 7) rfl)
theorem ow8 {Z : State} {a0 : Array Value} (hw : ∀ d ∈ tables_1, d.before a0 Z = true) : (Jvm.Cond.code ({ cls := "java/lang/Object", name := "<init>", desc := "()V" } : Jvm.MethodName) object_method_1_code (1 : Nat) (Option.none : Option Jvm.ClassFile.FieldType)).before a0 Z = true := hw _ (List.mem_of_getElem? (i := 8) rfl)
theorem ow9 {Z : State} {a0 : Array Value} (hw : ∀ d ∈ tables_1, d.before a0 Z = true) : (Jvm.Cond.fieldLink "com/example/zonewright/zonewright/storage/Room" (7 : Nat) "com/example/zonewright/zonewright/storage/Room" "index" "Lcom/example/zonewright/zonewright/storage/PlanIndex;").before a0 Z = true := hw _ (List.mem_of_getElem? (i := 9) rfl)
theorem ow10 {Z : State} {a0 : Array Value} (hw : ∀ d ∈ tables_1, d.before a0 Z = true) : (Jvm.Cond.laysFinal "com/example/zonewright/zonewright/storage/Room" "com/example/zonewright/zonewright/storage/Room" "index" "Lcom/example/zonewright/zonewright/storage/PlanIndex;").before a0 Z = true := hw _ (List.mem_of_getElem? (i := 10) rfl)
theorem ow11 {Z : State} {a0 : Array Value} (hw : ∀ d ∈ tables_1, d.before a0 Z = true) : (Jvm.Cond.fieldLink "com/example/zonewright/zonewright/storage/Room" (13 : Nat) "com/example/zonewright/zonewright/storage/Room" "bytes" "J").before a0 Z = true := hw _ (List.mem_of_getElem? (i := 11) rfl)
theorem ow12 {Z : State} {a0 : Array Value} (hw : ∀ d ∈ tables_1, d.before a0 Z = true) : (Jvm.Cond.lays "com/example/zonewright/zonewright/storage/Room" "com/example/zonewright/zonewright/storage/Room" "bytes" "J").before a0 Z = true := hw _ (List.mem_of_getElem? (i := 12) rfl)
theorem ow13 {Z : State} {a0 : Array Value} (hw : ∀ d ∈ tables_1, d.before a0 Z = true) : (Jvm.Cond.methodLink "com/example/zonewright/zonewright/storage/RoomGiveBackPinLaw" (12 : Nat) ({ cls := "com/example/zonewright/zonewright/storage/Room", name := "giveBack", desc := "()J" } : Jvm.MethodName)).before a0 Z = true := hw _ (List.mem_of_getElem? (i := 13) rfl)
theorem ow14 {Z : State} {a0 : Array Value} (hw : ∀ d ∈ tables_1, d.before a0 Z = true) : (Jvm.Cond.declares ({ cls := "com/example/zonewright/zonewright/storage/Room", name := "giveBack", desc := "()J" } : Jvm.MethodName)).before a0 Z = true := hw _ (List.mem_of_getElem? (i := 14) rfl)
theorem ow15 {Z : State} {a0 : Array Value} (hw : ∀ d ∈ tables_1, d.before a0 Z = true) : (Jvm.Cond.instanceMethod ({ cls := "com/example/zonewright/zonewright/storage/Room", name := "giveBack", desc := "()J" } : Jvm.MethodName)).before a0 Z = true := hw _ (List.mem_of_getElem? (i := 15) rfl)
theorem ow16 {Z : State} {a0 : Array Value} (hw : ∀ d ∈ tables_1, d.before a0 Z = true) : (Jvm.Cond.selects "com/example/zonewright/zonewright/storage/Room" ({ cls := "com/example/zonewright/zonewright/storage/Room", name := "giveBack", desc := "()J" } : Jvm.MethodName) ({ cls := "com/example/zonewright/zonewright/storage/Room", name := "giveBack", desc := "()J" } : Jvm.MethodName)).before a0 Z = true := hw _ (List.mem_of_getElem? (i := 16) rfl)
theorem ow17 {Z : State} {a0 : Array Value} (hw : ∀ d ∈ tables_1, d.before a0 Z = true) : (Jvm.Cond.code ({ cls := "com/example/zonewright/zonewright/storage/Room", name := "giveBack", desc := "()J" } : Jvm.MethodName) prog_26_method_2_code (3 : Nat) (Option.some Jvm.ClassFile.FieldType.long)).before a0 Z = true := hw _ (List.mem_of_getElem? (i := 17) rfl)
theorem pn0 : plainName "com/example/zonewright/zonewright/storage/Room" = true := by first | (simp [plainName, overriddenIn]; done) | decide +kernel
theorem d_prog_26_method_1_0 : decode prog_26_method_1_code 0 = .ok (.aload_n 0, 1) := by decide +kernel
theorem d_prog_26_method_1_1 : decode prog_26_method_1_code 1 = .ok (.invokespecial 1, 3) := by decide +kernel
theorem d_prog_26_method_1_4 : decode prog_26_method_1_code 4 = .ok (.aload_n 0, 1) := by decide +kernel
theorem d_prog_26_method_1_5 : decode prog_26_method_1_code 5 = .ok (.aload_n 1, 1) := by decide +kernel
theorem d_prog_26_method_1_6 : decode prog_26_method_1_code 6 = .ok (.putfield 7, 3) := by decide +kernel
theorem d_prog_26_method_1_9 : decode prog_26_method_1_code 9 = .ok (.aload_n 0, 1) := by decide +kernel
theorem d_prog_26_method_1_10 : decode prog_26_method_1_code 10 = .ok (.lload_n 2, 1) := by decide +kernel
theorem d_prog_26_method_1_11 : decode prog_26_method_1_code 11 = .ok (.putfield 13, 3) := by decide +kernel
theorem d_prog_26_method_1_14 : decode prog_26_method_1_code 14 = .ok (.return_, 1) := by decide +kernel
theorem ef_rm1 (m : MethodId) (x0 : Addr) (x2 : Int64) : entryFrame m #[(.ref x0), .null, (.long x2)] 4 = mkF m 0 #[.val (.ref x0), .val .null, .val (.long x2), .second] [] := by first | (simp [entryFrame, mkF, argsToLocals, Value.category]; done) | rfl
def Q_rm1 (Z : State) (a : Addr) (x2 : Int64) (u0 : Value) (u1 : Value) (h0 : Heap) (n0 : Nat) (v : Option Value) (h : Heap) (L : List Loc) : Prop := v = none ∧ Fr n0 L ∧ Keep h0 h [a] ∧ Exa Z h a "com/example/zonewright/zonewright/storage/Room" ∧ Fld Z h a "com/example/zonewright/zonewright/storage/Room" "index" "Lcom/example/zonewright/zonewright/storage/PlanIndex;" .null ∧ Fld Z h a "com/example/zonewright/zonewright/storage/Room" "bytes" "J" (.long x2)
set_option maxRecDepth 65536 in
set_option maxHeartbeats 40000000 in
theorem rm1 (l : Launch) (Z : State) (a0 : Array Value) (hw : ∀ d ∈ tables_1, d.before a0 Z = true) (ws : List Jvm.Cond) (a : Addr) (x2 : Int64) (u0 : Value) (u1 : Value) (h0 : Heap) (n0 : Nat) (Z0 : n0 ≤ h0.size) (E_a : Exa Z h0 a "com/example/zonewright/zonewright/storage/Room") (g_a : n0 ≤ a) (F_0 : Fld Z h0 a "com/example/zonewright/zonewright/storage/Room" "index" "Lcom/example/zonewright/zonewright/storage/PlanIndex;" u0) (F_1 : Fld Z h0 a "com/example/zonewright/zonewright/storage/Room" "bytes" "J" u1) :
    OCon l Z (⟨"com/example/zonewright/zonewright/storage/Room", "<init>", "(Lcom/example/zonewright/zonewright/storage/PlanIndex;J)V"⟩ : MethodName) prog_26_method_1_code 4 none ws ({ frames := 1, cells := 0, slots := 0, locals := 12 } : Room) #[(.ref a), .null, (.long x2)] h0 (Q_rm1 Z a x2 u0 u1 h0 n0) := by
  refine OCon.of pn0 ?_
  intro p e s m below meth c s₁ Φ X0 hx hby hml hown hnm hret hlk hZ e0 hΦ
  have N0 := Fr.nil n0
  refine OGo.st (fun _ k => castTop (ef_rm1 m a x2) k) ?_
  have K0 := Keep.refl h0 [a]
  show OGo p.tables e below Φ (s₁.setTop (mkF m 0 #[.val (.ref a), .val .null, .val (.long x2), .second] []))
  refine OGo.st (fun _ k => XS.aloadN X0.here hx rfl (hb hby d_prog_26_method_1_0) rfl rfl k) ?_
  show OGo p.tables e below Φ (s₁.setTop (mkF m 1 #[.val (.ref a), .val .null, .val (.long x2), .second] [(.ref a)]))
  obtain ⟨T1, X1, e1, st1⟩ := initO X0 hx hZ hown (ow6 hw) (ow7 hw) (ow8 hw) e0 (g := (mkF m 1 #[.val (.ref a), .val .null, .val (.long x2), .second] [(.ref a)])) rfl (by rw [hml]; rfl) rfl (hb hby d_prog_26_method_1_1) (by decide) (W := 0) (Nat.le_of_eq rfl) (by decide)
  refine OGo.st st1 ?_
  show OGo p.tables e below Φ (T1.setTop (mkF m 4 #[.val (.ref a), .val .null, .val (.long x2), .second] []))
  refine OGo.st (fun _ k => XS.aloadN X1.here hx rfl (hb hby d_prog_26_method_1_4) rfl rfl k) ?_
  show OGo p.tables e below Φ (T1.setTop (mkF m 5 #[.val (.ref a), .val .null, .val (.long x2), .second] [(.ref a)]))
  refine OGo.st (fun _ k => XS.aloadN X1.here hx rfl (hb hby d_prog_26_method_1_5) rfl rfl k) ?_
  show OGo p.tables e below Φ (T1.setTop (mkF m 6 #[.val (.ref a), .val .null, .val (.long x2), .second] [.null, (.ref a)]))
  obtain ⟨T2, h2, X2, e2, W2, st2⟩ := putF X1 hx hZ hown (host := "") (Or.inl (ow9 hw)) Via.refl e1 F_0 E_a (Or.inr ⟨(ow10 hw), rfl, hnm⟩) (ow1 hw) (ty := (.object "com/example/zonewright/zonewright/storage/PlanIndex")) (by decide) rfl rfl (g := (mkF m 6 #[.val (.ref a), .val .null, .val (.long x2), .second] [.null, (.ref a)])) rfl rfl (hb hby d_prog_26_method_1_6)
  have F3 := E_a.wr W2
  have F4 := F_0.same W2
  have F5 := F_1.other W2 (Or.inr (slot_ne (Or.inl (ow12 hw)) (Or.inr (ow10 hw)) (by decide) (t := .long) (t' := (.object "com/example/zonewright/zonewright/storage/PlanIndex")) (by decide) (by decide)))
  have K2 := K0.wr W2 (Or.inl (List.mem_of_getElem? (i := 0) rfl))
  have N2 := Fr.snoc X2 N0 g_a
  have Zs2 : n0 ≤ h2.size := by rw [W2.size]; exact Z0
  refine OGo.st st2 ?_
  show OGo p.tables e below Φ (T2.setTop (mkF m 9 #[.val (.ref a), .val .null, .val (.long x2), .second] []))
  refine OGo.st (fun _ k => XS.aloadN X2.here hx rfl (hb hby d_prog_26_method_1_9) rfl rfl k) ?_
  show OGo p.tables e below Φ (T2.setTop (mkF m 10 #[.val (.ref a), .val .null, .val (.long x2), .second] [(.ref a)]))
  refine OGo.st (fun _ k => XT.lloadN X2.here hx rfl (hb hby d_prog_26_method_1_10) rfl k) ?_
  show OGo p.tables e below Φ (T2.setTop (mkF m 11 #[.val (.ref a), .val .null, .val (.long x2), .second] [(.long x2), (.ref a)]))
  obtain ⟨T6, h6, X6, e6, W6, st6⟩ := putF X2 hx hZ hown (host := "") (Or.inl (ow11 hw)) Via.refl e2 F5 F3 (Or.inl (ow12 hw)) (ow1 hw) (ty := .long) (by decide) rfl rfl (g := (mkF m 11 #[.val (.ref a), .val .null, .val (.long x2), .second] [(.long x2), (.ref a)])) rfl rfl (hb hby d_prog_26_method_1_11)
  have F7 := F3.wr W6
  have F8 := F4.other W6 (Or.inr (slot_ne (Or.inr (ow10 hw)) (Or.inl (ow12 hw)) (by decide) (t := (.object "com/example/zonewright/zonewright/storage/PlanIndex")) (t' := .long) (by decide) (by decide)))
  have F9 := F5.same W6
  have K6 := K2.wr W6 (Or.inl (List.mem_of_getElem? (i := 0) rfl))
  have N6 := Fr.snoc X6 N2 g_a
  have Zs6 : n0 ≤ h6.size := by rw [W6.size]; exact Zs2
  refine OGo.st st6 ?_
  show OGo p.tables e below Φ (T6.setTop (mkF m 14 #[.val (.ref a), .val .null, .val (.long x2), .second] []))
  refine OGo.fin X6 hlk (v := none) (fun _ => rfl) (by decide) (by decide) (fun fs hr => X6.returnOut hx hret (hb hby d_prog_26_method_1_14) hr) fun U eU hF => hΦ _ _ _ ?_ hF
  rw [eU, e6]
  show Q_rm1 Z a x2 u0 u1 h0 n0 _ _ _
  exact ⟨rfl, N6, K6, F7, F8, F9⟩

theorem d_prog_26_method_2_0 : decode prog_26_method_2_code 0 = .ok (.aload_n 0, 1) := by decide +kernel
theorem d_prog_26_method_2_1 : decode prog_26_method_2_code 1 = .ok (.getfield 13, 3) := by decide +kernel
theorem d_prog_26_method_2_4 : decode prog_26_method_2_code 4 = .ok (.lstore_n 1, 1) := by decide +kernel
theorem d_prog_26_method_2_5 : decode prog_26_method_2_code 5 = .ok (.aload_n 0, 1) := by decide +kernel
theorem d_prog_26_method_2_6 : decode prog_26_method_2_code 6 = .ok (.lconst 0, 1) := by decide +kernel
theorem d_prog_26_method_2_7 : decode prog_26_method_2_code 7 = .ok (.putfield 13, 3) := by decide +kernel
theorem d_prog_26_method_2_10 : decode prog_26_method_2_code 10 = .ok (.lload_n 1, 1) := by decide +kernel
theorem d_prog_26_method_2_11 : decode prog_26_method_2_code 11 = .ok (.lreturn, 1) := by decide +kernel
theorem ef_rm2 (m : MethodId) (x0 : Addr) : entryFrame m #[(.ref x0)] 3 = mkF m 0 #[.val (.ref x0), .unset, .unset] [] := by first | (simp [entryFrame, mkF, argsToLocals, Value.category]; done) | rfl
def Q_rm2 (Z : State) (a : Addr) (q : Int64) (h0 : Heap) (n0 : Nat) (v : Option Value) (h : Heap) (L : List Loc) : Prop := v = some (.long q) ∧ Fr n0 L ∧ Keep h0 h [a] ∧ Exa Z h a "com/example/zonewright/zonewright/storage/Room" ∧ Fld Z h a "com/example/zonewright/zonewright/storage/Room" "bytes" "J" (.long (0 : Int64))
set_option maxRecDepth 65536 in
set_option maxHeartbeats 40000000 in
theorem rm2 (l : Launch) (Z : State) (a0 : Array Value) (hw : ∀ d ∈ tables_1, d.before a0 Z = true) (ws : List Jvm.Cond) (a : Addr) (q : Int64) (h0 : Heap) (n0 : Nat) (Z0 : n0 ≤ h0.size) (E_a : Exa Z h0 a "com/example/zonewright/zonewright/storage/Room") (g_a : n0 ≤ a) (F_b : Fld Z h0 a "com/example/zonewright/zonewright/storage/Room" "bytes" "J" (.long q)) :
    OCon l Z (⟨"com/example/zonewright/zonewright/storage/Room", "giveBack", "()J"⟩ : MethodName) prog_26_method_2_code 3 (some .long) ws ({ frames := 0, cells := 0, slots := 0, locals := 0 } : Room) #[(.ref a)] h0 (Q_rm2 Z a q h0 n0) := by
  refine OCon.of pn0 ?_
  intro p e s m below meth c s₁ Φ X0 hx hby hml hown hnm hret hlk hZ e0 hΦ
  have N0 := Fr.nil n0
  refine OGo.st (fun _ k => castTop (ef_rm2 m a) k) ?_
  have K0 := Keep.refl h0 [a]
  show OGo p.tables e below Φ (s₁.setTop (mkF m 0 #[.val (.ref a), .unset, .unset] []))
  refine OGo.st (fun _ k => XS.aloadN X0.here hx rfl (hb hby d_prog_26_method_2_0) rfl rfl k) ?_
  show OGo p.tables e below Φ (s₁.setTop (mkF m 1 #[.val (.ref a), .unset, .unset] [(.ref a)]))
  obtain ⟨T1, X1, e1, st1⟩ := getF X0 hx hZ hown (host := "") (Or.inl (ow11 hw)) Via.refl e0 F_b (g := (mkF m 1 #[.val (.ref a), .unset, .unset] [(.ref a)])) rfl rfl (hb hby d_prog_26_method_2_1)
  refine OGo.st st1 ?_
  show OGo p.tables e below Φ (T1.setTop (mkF m 4 #[.val (.ref a), .unset, .unset] [(.long q)]))
  refine OGo.st (fun _ k => XT.lstoreN X1.here hx rfl (hb hby d_prog_26_method_2_4) rfl (l' := #[.val (.ref a), .val (.long q), .second]) rfl k) ?_
  show OGo p.tables e below Φ (T1.setTop (mkF m 5 #[.val (.ref a), .val (.long q), .second] []))
  refine OGo.st (fun _ k => XS.aloadN X1.here hx rfl (hb hby d_prog_26_method_2_5) rfl rfl k) ?_
  show OGo p.tables e below Φ (T1.setTop (mkF m 6 #[.val (.ref a), .val (.long q), .second] [(.ref a)]))
  refine OGo.st (fun _ k => XT.lconst X1.here hx rfl (hb hby d_prog_26_method_2_6) k) ?_
  show OGo p.tables e below Φ (T1.setTop (mkF m 7 #[.val (.ref a), .val (.long q), .second] [(.long (0 : Int64)), (.ref a)]))
  obtain ⟨T2, h2, X2, e2, W2, st2⟩ := putF X1 hx hZ hown (host := "") (Or.inl (ow11 hw)) Via.refl e1 F_b E_a (Or.inl (ow12 hw)) (ow1 hw) (ty := .long) (by decide) rfl rfl (g := (mkF m 7 #[.val (.ref a), .val (.long q), .second] [(.long (0 : Int64)), (.ref a)])) rfl rfl (hb hby d_prog_26_method_2_7)
  have F3 := E_a.wr W2
  have F4 := F_b.same W2
  have K2 := K0.wr W2 (Or.inl (List.mem_of_getElem? (i := 0) rfl))
  have N2 := Fr.snoc X2 N0 g_a
  have Zs2 : n0 ≤ h2.size := by rw [W2.size]; exact Z0
  refine OGo.st st2 ?_
  show OGo p.tables e below Φ (T2.setTop (mkF m 10 #[.val (.ref a), .val (.long q), .second] []))
  refine OGo.st (fun _ k => XT.lloadN X2.here hx rfl (hb hby d_prog_26_method_2_10) rfl k) ?_
  show OGo p.tables e below Φ (T2.setTop (mkF m 11 #[.val (.ref a), .val (.long q), .second] [(.long q)]))
  refine OGo.fin X2 hlk (v := (some (.long q))) (fun h => by rw [hret] at h; cases h) (by decide) (by decide) (fun fs hr => X2.lreturnOut hx hret (hb hby d_prog_26_method_2_11) hr) fun U eU hF => hΦ _ _ _ ?_ hF
  rw [eU, e2]
  show Q_rm2 Z a q h0 n0 _ _ _
  exact ⟨rfl, N2, K2, F3, F4⟩

theorem pn1 : plainName "com/example/zonewright/zonewright/storage/RoomGiveBackPinLaw" = true := by first | (simp [plainName, overriddenIn]; done) | decide +kernel
theorem pd0 : parseMethodDescriptor "(Lcom/example/zonewright/zonewright/storage/PlanIndex;J)V" = some ⟨[(.object "com/example/zonewright/zonewright/storage/PlanIndex"), .long], none⟩ := by decide +kernel
theorem pd1 : parseMethodDescriptor "()J" = some ⟨[], some .long⟩ := by decide +kernel
theorem ef_rm0 (m : MethodId) (x0 : Int64) : entryFrame m #[(.long x0)] maxLocals = mkF m 0 #[.val (.long x0), .second, .unset, .unset, .unset, .unset, .unset, .unset, .unset] [] := by first | (simp [entryFrame, mkF, argsToLocals, Value.category, maxLocals]; done) | rfl
def Q_rm0 (Z : State) (q : Int64) (h0 : Heap) (n0 : Nat) (v : Option Value) (h : Heap) (L : List Loc) : Prop := v = some (.int (1 : Int32)) ∧ Fr n0 L
set_option maxRecDepth 65536 in
set_option maxHeartbeats 40000000 in
theorem rm0 (l : Launch) (Z : State) (a0 : Array Value) (hw : ∀ d ∈ tables_1, d.before a0 Z = true) (ws : List Jvm.Cond) (q : Int64) (h0 : Heap) (n0 : Nat) (Z0 : n0 ≤ h0.size)  :
    OCon l Z x code maxLocals ret ws room_1 #[(.long q)] h0 (Q_rm0 Z q h0 n0) := by
  refine OCon.of pn1 ?_
  intro p e s m below meth c s₁ Φ X0 hx hby hml hown hnm hret hlk hZ e0 hΦ
  have N0 := Fr.nil n0
  refine OGo.st (fun _ k => castTop (ef_rm0 m q) k) ?_
  show OGo p.tables e below Φ (s₁.setTop (mkF m 0 #[.val (.long q), .second, .unset, .unset, .unset, .unset, .unset, .unset, .unset] []))
  obtain ⟨T1, h1, X1, e1, E1, A1, D1, U1, st1⟩ := newO X0 hx hZ hown (ow0 hw) (ow1 hw) (ow2 hw) e0 (g := (mkF m 0 #[.val (.long q), .second, .unset, .unset, .unset, .unset, .unset, .unset, .unset] [])) rfl (hb hby at_0) (by decide) (by decide)
  obtain ⟨b1, g1⟩ : ∃ z, z = h0.size := ⟨_, rfl⟩
  rw [← g1] at A1 D1 st1 U1
  have gb1 : n0 ≤ b1 := Nat.le_trans Z0 (Nat.le_of_eq g1.symm)
  have Zs1 : n0 ≤ h1.size := Nat.le_trans Z0 E1.1
  have F1_10 : Fld Z h1 b1 "com/example/zonewright/zonewright/storage/Room" "index" "Lcom/example/zonewright/zonewright/storage/PlanIndex;" .null := D1 (Or.inr (ow10 hw)) (ty := (.object "com/example/zonewright/zonewright/storage/PlanIndex")) (by decide)
  have F1_12 : Fld Z h1 b1 "com/example/zonewright/zonewright/storage/Room" "bytes" "J" (.long (0 : Int64)) := D1 (Or.inl (ow12 hw)) (ty := .long) (by decide)
  refine OGo.st (st1) ?_
  show OGo p.tables e below Φ (T1.setTop (mkF m 3 #[.val (.long q), .second, .unset, .unset, .unset, .unset, .unset, .unset, .unset] [(.ref b1)]))
  refine OGo.st (fun _ k => XS.dup X1.here hx rfl (hb hby at_3) rfl rfl k) ?_
  show OGo p.tables e below Φ (T1.setTop (mkF m 4 #[.val (.long q), .second, .unset, .unset, .unset, .unset, .unset, .unset, .unset] [(.ref b1), (.ref b1)]))
  refine OGo.st (fun _ k => XS.aconstNull X1.here hx rfl (hb hby at_4) k) ?_
  show OGo p.tables e below Φ (T1.setTop (mkF m 5 #[.val (.long q), .second, .unset, .unset, .unset, .unset, .unset, .unset, .unset] [.null, (.ref b1), (.ref b1)]))
  refine OGo.st (fun _ k => XT.lloadN X1.here hx rfl (hb hby at_5) rfl k) ?_
  show OGo p.tables e below Φ (T1.setTop (mkF m 6 #[.val (.long q), .second, .unset, .unset, .unset, .unset, .unset, .unset, .unset] [(.long q), .null, (.ref b1), (.ref b1)]))
  obtain ⟨_, T2, L2, X2, hQ2, st2⟩ := own_callSp X1 hx hZ rfl hown (ow3 hw) (ow4 hw) (ow2 hw) (ow5 hw) (by decide) (rm1 l Z a0 hw [] b1 q .null (.long (0 : Int64)) h1 n0 Zs1 A1 gb1 F1_10 F1_12) e1 (W := 1) (by decide) (by decide) (by decide) (by decide) (pc := 6) (ls := #[.val (.long q), .second, .unset, .unset, .unset, .unset, .unset, .unset, .unset]) (stk := [(.long q), .null, (.ref b1), (.ref b1)]) (by rw [hml]; rfl) (a := b1) (argsL := [.null, (.long q)]) (rest := [(.ref b1)]) (lenOf pd0 rfl) rfl rfl (Nat.le_of_eq rfl) (hb hby at_6)
  obtain ⟨rfl, Nq2, Kq2, Eq2, Fq2_0, Fq2_1⟩ := hQ2
  have N2 := Fr.app N0 Nq2
  have Zs2 : n0 ≤ T2.heap.size := Nat.le_trans Zs1 Kq2.1
  refine OGo.st st2 ?_
  show OGo p.tables e below Φ (T2.setTop (mkF m 9 #[.val (.long q), .second, .unset, .unset, .unset, .unset, .unset, .unset, .unset] [(.ref b1)]))
  refine OGo.st (fun _ k => XS.astoreN X2.here hx rfl (hb hby at_9) rfl rfl (l' := #[.val (.long q), .second, .val (.ref b1), .unset, .unset, .unset, .unset, .unset, .unset]) rfl k) ?_
  show OGo p.tables e below Φ (T2.setTop (mkF m 10 #[.val (.long q), .second, .val (.ref b1), .unset, .unset, .unset, .unset, .unset, .unset] []))
  refine OGo.st (fun _ k => XS.aloadN X2.here hx rfl (hb hby at_10) rfl rfl k) ?_
  show OGo p.tables e below Φ (T2.setTop (mkF m 11 #[.val (.long q), .second, .val (.ref b1), .unset, .unset, .unset, .unset, .unset, .unset] [(.ref b1)]))
  obtain ⟨_, T3, L3, X3, hQ3, st3⟩ := own_callVi X2 hx hZ hown (ow13 hw) (ow14 hw) (notFace_of_selects (args := #[]) (mvT hZ (ow16 hw))) (ow16 hw) (ow15 hw) (ow2 hw) (ow17 hw) (by decide) (rm2 l Z a0 hw [] b1 q T2.heap n0 Zs2 Eq2 gb1 Fq2_1) rfl (W := 0) (by decide) (by decide) (by decide) (by decide) Eq2 (pc := 11) (ls := #[.val (.long q), .second, .val (.ref b1), .unset, .unset, .unset, .unset, .unset, .unset]) (stk := [(.ref b1)]) (by rw [hml]; rfl) (argsL := []) (rest := []) (lenOf pd1 rfl) rfl rfl (Nat.le_of_eq rfl) (hb hby at_11)
  obtain ⟨rfl, Nq3, Kq3, Eq3, Fq3⟩ := hQ3
  have N3 := Fr.app N2 Nq3
  have Zs3 : n0 ≤ T3.heap.size := Nat.le_trans Zs2 Kq3.1
  refine OGo.st st3 ?_
  show OGo p.tables e below Φ (T3.setTop (mkF m 14 #[.val (.long q), .second, .val (.ref b1), .unset, .unset, .unset, .unset, .unset, .unset] [(.long q)]))
  refine OGo.st (fun _ k => XT.lstoreN X3.here hx rfl (hb hby at_14) rfl (l' := #[.val (.long q), .second, .val (.ref b1), .val (.long q), .second, .unset, .unset, .unset, .unset]) rfl k) ?_
  show OGo p.tables e below Φ (T3.setTop (mkF m 15 #[.val (.long q), .second, .val (.ref b1), .val (.long q), .second, .unset, .unset, .unset, .unset] []))
  refine OGo.st (fun _ k => XS.aloadN X3.here hx rfl (hb hby at_15) rfl rfl k) ?_
  show OGo p.tables e below Φ (T3.setTop (mkF m 16 #[.val (.long q), .second, .val (.ref b1), .val (.long q), .second, .unset, .unset, .unset, .unset] [(.ref b1)]))
  obtain ⟨_, T4, L4, X4, hQ4, st4⟩ := own_callVi X3 hx hZ hown (ow13 hw) (ow14 hw) (notFace_of_selects (args := #[]) (mvT hZ (ow16 hw))) (ow16 hw) (ow15 hw) (ow2 hw) (ow17 hw) (by decide) (rm2 l Z a0 hw [] b1 (0 : Int64) T3.heap n0 Zs3 Eq3 gb1 Fq3) rfl (W := 0) (by decide) (by decide) (by decide) (by decide) Eq3 (pc := 16) (ls := #[.val (.long q), .second, .val (.ref b1), .val (.long q), .second, .unset, .unset, .unset, .unset]) (stk := [(.ref b1)]) (by rw [hml]; rfl) (argsL := []) (rest := []) (lenOf pd1 rfl) rfl rfl (Nat.le_of_eq rfl) (hb hby at_16)
  obtain ⟨rfl, Nq4, Kq4, Eq4, Fq4⟩ := hQ4
  have N4 := Fr.app N3 Nq4
  have Zs4 : n0 ≤ T4.heap.size := Nat.le_trans Zs3 Kq4.1
  refine OGo.st st4 ?_
  show OGo p.tables e below Φ (T4.setTop (mkF m 19 #[.val (.long q), .second, .val (.ref b1), .val (.long q), .second, .unset, .unset, .unset, .unset] [(.long (0 : Int64))]))
  refine OGo.st (fun _ k => XT.lstore X4.here hx rfl (hb hby at_19) rfl (l' := #[.val (.long q), .second, .val (.ref b1), .val (.long q), .second, .val (.long (0 : Int64)), .second, .unset, .unset]) rfl k) ?_
  show OGo p.tables e below Φ (T4.setTop (mkF m 21 #[.val (.long q), .second, .val (.ref b1), .val (.long q), .second, .val (.long (0 : Int64)), .second, .unset, .unset] []))
  refine OGo.st (fun _ k => XS.aloadN X4.here hx rfl (hb hby at_21) rfl rfl k) ?_
  show OGo p.tables e below Φ (T4.setTop (mkF m 22 #[.val (.long q), .second, .val (.ref b1), .val (.long q), .second, .val (.long (0 : Int64)), .second, .unset, .unset] [(.ref b1)]))
  obtain ⟨_, T5, L5, X5, hQ5, st5⟩ := own_callVi X4 hx hZ hown (ow13 hw) (ow14 hw) (notFace_of_selects (args := #[]) (mvT hZ (ow16 hw))) (ow16 hw) (ow15 hw) (ow2 hw) (ow17 hw) (by decide) (rm2 l Z a0 hw [] b1 (0 : Int64) T4.heap n0 Zs4 Eq4 gb1 Fq4) rfl (W := 0) (by decide) (by decide) (by decide) (by decide) Eq4 (pc := 22) (ls := #[.val (.long q), .second, .val (.ref b1), .val (.long q), .second, .val (.long (0 : Int64)), .second, .unset, .unset]) (stk := [(.ref b1)]) (by rw [hml]; rfl) (argsL := []) (rest := []) (lenOf pd1 rfl) rfl rfl (Nat.le_of_eq rfl) (hb hby at_22)
  obtain ⟨rfl, Nq5, Kq5, Eq5, Fq5⟩ := hQ5
  have N5 := Fr.app N4 Nq5
  have Zs5 : n0 ≤ T5.heap.size := Nat.le_trans Zs4 Kq5.1
  refine OGo.st st5 ?_
  show OGo p.tables e below Φ (T5.setTop (mkF m 25 #[.val (.long q), .second, .val (.ref b1), .val (.long q), .second, .val (.long (0 : Int64)), .second, .unset, .unset] [(.long (0 : Int64))]))
  refine OGo.st (fun _ k => XT.lstore X5.here hx rfl (hb hby at_25) rfl (l' := #[.val (.long q), .second, .val (.ref b1), .val (.long q), .second, .val (.long (0 : Int64)), .second, .val (.long (0 : Int64)), .second]) rfl k) ?_
  show OGo p.tables e below Φ (T5.setTop (mkF m 27 #[.val (.long q), .second, .val (.ref b1), .val (.long q), .second, .val (.long (0 : Int64)), .second, .val (.long (0 : Int64)), .second] []))
  refine OGo.st (fun _ k => XT.lloadN X5.here hx rfl (hb hby at_27) rfl k) ?_
  show OGo p.tables e below Φ (T5.setTop (mkF m 28 #[.val (.long q), .second, .val (.ref b1), .val (.long q), .second, .val (.long (0 : Int64)), .second, .val (.long (0 : Int64)), .second] [(.long q)]))
  refine OGo.st (fun _ k => XT.lloadN X5.here hx rfl (hb hby at_28) rfl k) ?_
  show OGo p.tables e below Φ (T5.setTop (mkF m 29 #[.val (.long q), .second, .val (.ref b1), .val (.long q), .second, .val (.long (0 : Int64)), .second, .val (.long (0 : Int64)), .second] [(.long q), (.long q)]))
  refine OGo.st (fun _ k => XT.lcmp X5.here hx rfl (hb hby at_29) rfl k) ?_
  show OGo p.tables e below Φ (T5.setTop (mkF m 30 #[.val (.long q), .second, .val (.ref b1), .val (.long q), .second, .val (.long (0 : Int64)), .second, .val (.long (0 : Int64)), .second] [(.int (XT.cmpL q q))]))
  refine OGo.st (fun _ k => XS.ifNo X5.here hx rfl (hb hby at_30) rfl (XT.ll_ne_f rfl) k) ?_
  show OGo p.tables e below Φ (T5.setTop (mkF m 33 #[.val (.long q), .second, .val (.ref b1), .val (.long q), .second, .val (.long (0 : Int64)), .second, .val (.long (0 : Int64)), .second] []))
  refine OGo.st (fun _ k => XT.lload X5.here hx rfl (hb hby at_33) rfl k) ?_
  show OGo p.tables e below Φ (T5.setTop (mkF m 35 #[.val (.long q), .second, .val (.ref b1), .val (.long q), .second, .val (.long (0 : Int64)), .second, .val (.long (0 : Int64)), .second] [(.long (0 : Int64))]))
  refine OGo.st (fun _ k => XT.lconst X5.here hx rfl (hb hby at_35) k) ?_
  show OGo p.tables e below Φ (T5.setTop (mkF m 36 #[.val (.long q), .second, .val (.ref b1), .val (.long q), .second, .val (.long (0 : Int64)), .second, .val (.long (0 : Int64)), .second] [(.long (0 : Int64)), (.long (0 : Int64))]))
  refine OGo.st (fun _ k => XT.lcmp X5.here hx rfl (hb hby at_36) rfl k) ?_
  show OGo p.tables e below Φ (T5.setTop (mkF m 37 #[.val (.long q), .second, .val (.ref b1), .val (.long q), .second, .val (.long (0 : Int64)), .second, .val (.long (0 : Int64)), .second] [(.int (XT.cmpL (0 : Int64) (0 : Int64)))]))
  refine OGo.st (fun _ k => XS.ifNo X5.here hx rfl (hb hby at_37) rfl (XT.ll_ne_f (by decide)) k) ?_
  show OGo p.tables e below Φ (T5.setTop (mkF m 40 #[.val (.long q), .second, .val (.ref b1), .val (.long q), .second, .val (.long (0 : Int64)), .second, .val (.long (0 : Int64)), .second] []))
  refine OGo.st (fun _ k => XT.lload X5.here hx rfl (hb hby at_40) rfl k) ?_
  show OGo p.tables e below Φ (T5.setTop (mkF m 42 #[.val (.long q), .second, .val (.ref b1), .val (.long q), .second, .val (.long (0 : Int64)), .second, .val (.long (0 : Int64)), .second] [(.long (0 : Int64))]))
  refine OGo.st (fun _ k => XT.lconst X5.here hx rfl (hb hby at_42) k) ?_
  show OGo p.tables e below Φ (T5.setTop (mkF m 43 #[.val (.long q), .second, .val (.ref b1), .val (.long q), .second, .val (.long (0 : Int64)), .second, .val (.long (0 : Int64)), .second] [(.long (0 : Int64)), (.long (0 : Int64))]))
  refine OGo.st (fun _ k => XT.lcmp X5.here hx rfl (hb hby at_43) rfl k) ?_
  show OGo p.tables e below Φ (T5.setTop (mkF m 44 #[.val (.long q), .second, .val (.ref b1), .val (.long q), .second, .val (.long (0 : Int64)), .second, .val (.long (0 : Int64)), .second] [(.int (XT.cmpL (0 : Int64) (0 : Int64)))]))
  refine OGo.st (fun _ k => XS.ifNo X5.here hx rfl (hb hby at_44) rfl (XT.ll_ne_f (by decide)) k) ?_
  show OGo p.tables e below Φ (T5.setTop (mkF m 47 #[.val (.long q), .second, .val (.ref b1), .val (.long q), .second, .val (.long (0 : Int64)), .second, .val (.long (0 : Int64)), .second] []))
  refine OGo.st (fun _ k => XS.iconst X5.here hx rfl (hb hby at_47) k) ?_
  show OGo p.tables e below Φ (T5.setTop (mkF m 48 #[.val (.long q), .second, .val (.ref b1), .val (.long q), .second, .val (.long (0 : Int64)), .second, .val (.long (0 : Int64)), .second] [(.int (1 : Int32))]))
  refine OGo.st (fun _ k => XS.goto X5.here hx rfl (pc0 := 48) (pc' := 52) rfl (hb hby at_48) (by decide) (by decide) k) ?_
  show OGo p.tables e below Φ (T5.setTop (mkF m 52 #[.val (.long q), .second, .val (.ref b1), .val (.long q), .second, .val (.long (0 : Int64)), .second, .val (.long (0 : Int64)), .second] [(.int (1 : Int32))]))
  refine OGo.fin X5 hlk (v := (some (.int (1 : Int32)))) (fun h => by rw [hret] at h; cases h) (by decide) (by decide) (fun fs hr => X5.ireturnOut hx hret rfl (by simp) (hb hby at_52) hr) fun U eU hF => hΦ _ _ _ ?_ hF
  rw [eU]
  show Q_rm0 Z q h0 n0 _ _ _
  exact ⟨rfl, N5⟩

set_option maxRecDepth 65536 in
set_option maxHeartbeats 40000000 in
theorem comes_1 {Post : Tables → Env → Array Value → State → Outcome → State → Prop} (hpost : ∀ tb e args s v u, (limb_1_1.after args s (.returned v) u = true ∧ limb_1_2.after args s (.returned v) u = true ∧ True) → FrameEnd s (.returned v) u (Jvm.fieldLocs frame_1_writes args s ++ Jvm.arrayLocs frame_1_arrays args s ++ Jvm.staticLocs frame_1_statics s) 16 128 → Post tb e args s (.returned v) u) :
    ArmFor flags0 classFile x code maxLocals ret World_1 tables_1 room_1 Calls_1 rest_1 Pre_1 Post := by
  intro l hfl _ _ p e ha hc hk s m args below hf hA hF happ hP
  obtain ⟨hcalls, hrest, hpre⟩ := hP
  obtain ⟨-, -, -, hnamed, -, -, -, hat⟩ := (Spec.applies_iff hf).mp happ
  obtain ⟨hg, hn⟩ := and_e (Cond.before_iff.mp (show (Jvm.Cond.and given_1 narrow_1).before args s = true from hpre))
  obtain ⟨g0, r0⟩ := and_e hg
  have k0 := r0
  obtain ⟨w0, rfl⟩ : ∃ w0 : Value, args = #[w0] := by
    have hs : args.size = 1 := by simpa [Cond.value, given_1] using g0
    obtain ⟨L⟩ := args
    match L, hs with
    | [w0], _ => exact ⟨w0, rfl⟩
  have hw := fun d (hd : d ∈ tables_1) => atoms_spec (ws := Jvm.Cond.code x code maxLocals ret :: tables_1) hat d (List.mem_cons_of_mem _ hd)
  have hfit : Fit s := fun {y c} hc i hi => by
    obtain ⟨ha, rfl⟩ := Array.getElem?_eq_some_iff.mp hc
    have q := List.all_eq_true.mp ((Array.all_eq_true_iff_forall_mem.mp hF) _ (Array.getElem_mem ha)) i (List.mem_range.mpr hi)
    simpa [Array.getElem?_eq_getElem hi] using q
  obtain ⟨i0, ei0⟩ := isL_v k0
  obtain rfl : w0 = (.long i0) := Option.some.inj ei0
  obtain ⟨n, o, h1, h2, h3, _, L, rfl, ⟨rfl, N⟩, hq⟩ := rm0 l s _ hw tables_1 i0  s.heap s.heap.size (Nat.le_refl _)  p e ha hc hk s m _ below hf ((Spec.applies_iff_loose hf).mp happ).1 ⟨rfl, State.Warmed39.refl s, rfl⟩ trivial
  refine ⟨n, _, h1, h2, h3, hpost _ _ _ _ _ _ ⟨Cond.after_iff.mpr rfl, Cond.after_iff.mpr (eq_i res_at (Term.int_eval (1)) rfl), trivial⟩ ⟨hq.1, hq.2.1, (hq.2.2.sift fun y hy => Or.inr (N y hy)).mono (by decide) (by decide)⟩⟩
theorem main_1_1 : Claimed_1_1 := comes_1 fun _ _ _ _ _ _ h hF => ⟨h.1, hF⟩
theorem main_1_2 : Claimed_1_2 := comes_1 fun _ _ _ _ _ _ h hF => ⟨h.2.1, hF⟩
end Jvm.Pilot.@@N@@
namespace Jvm.Pilot.@@N@@
open Jvm Jvm.ClassFile Sem Op Lib Jvm.Free Jvm.Stand Jvm.Pilot.@@N@@.Jvm.D
/-! MADE BY PROGRAM (witnessworld.py) out of the Statement's table words and the real class files: 10 classes; the members and pool entries that the words name. The judged class is class 1, her method 1. -/
namespace start1
open Jvm.ClassFile
def u (s : String) : CpInfo := .utf8 (stringToUtf16 s)
/-- a pool by its gaps: so many unusable entries, then the entry; so many at the end -/
def gap : Nat → List CpInfo → List CpInfo
  | 0, r => r
  | n + 1, r => .unusable :: gap n r
def poolList (es : List (Nat × CpInfo)) (last : Nat) : List CpInfo := es.foldr (fun e r => gap e.1 (e.2 :: r)) (gap last [])
def pool (es : List (Nat × CpInfo)) (last : Nat) : Array CpInfo := ⟨poolList es last⟩
def fileOf (pool : Array CpInfo) (this : Nat) (attrs : Array Attribute := #[]) (ms : Array MethodInfo := #[]) (fl : Nat := 33) (sup : Nat := 0) (ifs : Array Nat := #[]) (fds : Array FieldInfo := #[]) : ClassFile where
  minorVersion := 0
  majorVersion := 65
  constantPool := pool
  accessFlags := fl
  thisClass := this
  superClass := sup
  interfaces := ifs
  fields := fds
  methods := ms
  attributes := attrs
def plain (name : String) (sup : Option ClassId) : Class where
  name := name
  kind := .ordinary
  loader := none
  accessFlags := 33
  super := sup
  interfaces := #[]
  cf := none
  fields := #[]
  methods := #[]
  instanceTypes := #[]
  staticTypes := #[]
  resolved := #[]
  callSites := []
  init := .initialized
  statics := none
  mirror := none

def pool0 : Array CpInfo := pool [(5, u "<init>"), (0, u "()V"), (1, .class_ 10), (1, u "java/lang/Object")] 113

def k0c0 : Code := { maxStack := 0, maxLocals := 1, code := object_method_1_code, exceptionTable := #[], attributes := #[] }
def k0m0 : Method := { name := "<init>", desc := "()V", sig := { parameters := [], returnType := none }, accessFlags := 1, code := some k0c0 }
/-- java/lang/Object -/
def k0 : Class := { plain "java/lang/Object" none with
  accessFlags := 33
  interfaces := #[]
  cf := some (fileOf pool0 8 #[] #[{ accessFlags := 1, nameIndex := 5, descriptorIndex := 6, attributes := #[] }] 33 0 #[] #[])
  fields := #[]
  methods := #[k0m0]
  instanceTypes := #[]
  staticTypes := #[]
  resolved := Array.replicate 124 none
  statics := none }

def pool1 : Array CpInfo := pool [(2, .class_ 4), (1, u "java/lang/Object"), (0, u "<init>"), (0, u "()V"), (0, .class_ 8), (0, u "com/example/zonewright/zonewright/storage/Room"), (0, .methodref 7 10), (0, .nameAndType 5 11), (0, u "(Lcom/example/zonewright/zonewright/storage/PlanIndex;J)V"), (0, .methodref 7 13), (0, .nameAndType 14 15), (0, u "giveBack"), (0, u "()J"), (0, .class_ 17), (0, u "com/example/zonewright/zonewright/storage/RoomGiveBackPinLaw"), (2, u "law"), (0, u "(J)Z")] 3

def k1m0 : Method := { name := "<init>", desc := "()V", sig := { parameters := [], returnType := none }, accessFlags := 1, code := none }
def k1c1 : Code := { maxStack := 5, maxLocals := 9, code := code, exceptionTable := #[], attributes := #[] }
def k1m1 : Method := { name := "law", desc := "(J)Z", sig := { parameters := [.long], returnType := some .boolean }, accessFlags := 9, code := some k1c1 }
/-- com/example/zonewright/zonewright/storage/RoomGiveBackPinLaw -/
def k1 : Class := { plain "com/example/zonewright/zonewright/storage/RoomGiveBackPinLaw" (some 0) with
  accessFlags := 49
  interfaces := #[]
  cf := some (fileOf pool1 16 #[] #[{ accessFlags := 1, nameIndex := 5, descriptorIndex := 6, attributes := #[] }, { accessFlags := 9, nameIndex := 20, descriptorIndex := 21, attributes := #[] }] 49 2 #[] #[])
  fields := #[]
  methods := #[k1m0, k1m1]
  instanceTypes := #[]
  staticTypes := #[]
  resolved := Array.replicate 25 none
  statics := none }

def pool2 : Array CpInfo := pool [(1, .class_ 2), (0, u "java/lang/AutoCloseable"), (0, .class_ 4), (0, u "java/lang/Object")] 7

/-- java/lang/AutoCloseable -/
def k2 : Class := { plain "java/lang/AutoCloseable" (some 0) with
  accessFlags := 1537
  interfaces := #[]
  cf := some (fileOf pool2 1 #[] #[] 1537 3 #[] #[])
  fields := #[]
  methods := #[]
  instanceTypes := #[]
  staticTypes := #[]
  resolved := Array.replicate 12 none
  statics := none }

def pool3 : Array CpInfo := pool [(1, .methodref 2 3), (0, .class_ 4), (0, .nameAndType 5 6), (0, u "java/lang/Object"), (0, u "<init>"), (0, u "()V"), (0, .fieldref 8 9), (0, .class_ 10), (0, .nameAndType 11 12), (0, u "com/example/zonewright/zonewright/storage/Room"), (0, u "index"), (0, u "Lcom/example/zonewright/zonewright/storage/PlanIndex;"), (0, .fieldref 8 14), (0, .nameAndType 15 16), (0, u "bytes"), (0, u "J"), (6, .class_ 24), (0, u "java/lang/AutoCloseable"), (0, u "(Lcom/example/zonewright/zonewright/storage/PlanIndex;J)V"), (2, u "giveBack"), (0, u "()J")] 3

def k3c0 : Code := { maxStack := 3, maxLocals := 4, code := prog_26_method_1_code, exceptionTable := #[], attributes := #[] }
def k3m0 : Method := { name := "<init>", desc := "(Lcom/example/zonewright/zonewright/storage/PlanIndex;J)V", sig := { parameters := [(.object "com/example/zonewright/zonewright/storage/PlanIndex"), .long], returnType := none }, accessFlags := 0, code := some k3c0 }
def k3c1 : Code := { maxStack := 3, maxLocals := 3, code := prog_26_method_2_code, exceptionTable := #[], attributes := #[] }
def k3m1 : Method := { name := "giveBack", desc := "()J", sig := { parameters := [], returnType := some .long }, accessFlags := 0, code := some k3c1 }
/-- com/example/zonewright/zonewright/storage/Room -/
def k3 : Class := { plain "com/example/zonewright/zonewright/storage/Room" (some 0) with
  accessFlags := 49
  interfaces := #[2]
  cf := some (fileOf pool3 8 #[] #[{ accessFlags := 0, nameIndex := 5, descriptorIndex := 25, attributes := #[] }, { accessFlags := 0, nameIndex := 28, descriptorIndex := 29, attributes := #[] }] 49 2 #[23] #[{ accessFlags := 18, nameIndex := 11, descriptorIndex := 12, attributes := #[] }, { accessFlags := 2, nameIndex := 15, descriptorIndex := 16, attributes := #[] }])
  fields := #[{ name := "index", type := (.object "com/example/zonewright/zonewright/storage/PlanIndex"), accessFlags := 18, slot := 0, constantValue := 0 }, { name := "bytes", type := .long, accessFlags := 2, slot := 1, constantValue := 0 }]
  methods := #[k3m0, k3m1]
  instanceTypes := #[(.object "com/example/zonewright/zonewright/storage/PlanIndex"), .long]
  staticTypes := #[]
  resolved := Array.replicate 33 none
  statics := none }

def pool4 : Array CpInfo := pool [(1, u "java/lang/Cloneable"), (0, .class_ 1), (0, u "java/lang/Object"), (0, .class_ 3)] 3

/-- java/lang/Cloneable -/
def k4 : Class := { plain "java/lang/Cloneable" (some 0) with
  accessFlags := 1537
  interfaces := #[]
  cf := some (fileOf pool4 2 #[] #[] 1537 4 #[] #[])
  fields := #[]
  methods := #[]
  instanceTypes := #[]
  staticTypes := #[]
  resolved := Array.replicate 8 none
  statics := none }

def pool5 : Array CpInfo := pool [(1, u "java/io/Serializable"), (0, .class_ 1), (0, u "java/lang/Object"), (0, .class_ 3)] 3

/-- java/io/Serializable -/
def k5 : Class := { plain "java/io/Serializable" (some 0) with
  accessFlags := 1537
  interfaces := #[]
  cf := some (fileOf pool5 2 #[] #[] 1537 4 #[] #[])
  fields := #[]
  methods := #[]
  instanceTypes := #[]
  staticTypes := #[]
  resolved := Array.replicate 8 none
  statics := none }

/-- the primitive byte -/
def k6 : Class := { plain "byte" none with kind := .primitive 'B', accessFlags := 0x411 }
/-- [B -/
def k7 : Class := { plain "[B" (some 0) with kind := .array 6 .byte, interfaces := #[4, 5], accessFlags := 1041 }

/-- the primitive int -/
def k8 : Class := { plain "int" none with kind := .primitive 'I', accessFlags := 0x411 }
/-- [I -/
def k9 : Class := { plain "[I" (some 0) with kind := .array 8 .int, interfaces := #[4, 5], accessFlags := 1041 }

def heap : Heap := #[]
def classes : Array Class := #[k0, k1, k2, k3, k4, k5, k6, k7, k8, k9]
def interned : List (Array UInt16 × Addr) := []
def slotsUsed : Nat := 0
def theMethod : MethodId := ⟨1, 1⟩
def args0 : Array Value := #[.long 5]
def aboutOver (below : List Frame) : State where
  vm := { classes := classes, interned := interned.toArray }
  heap := heap
  slotsUsed := slotsUsed
  threads := #[{ frames := .invoking theMethod args0 :: below }]
def below0 : List Frame := [.native { method := ⟨0, 0⟩, args := #[] }]
def about1 : State := aboutOver below0
def p0 : Program := .bare "" "" ""
def e0 : Env := launch0.env 0 0 0
theorem w_frames : about1.frames = Frame.invoking theMethod args0 :: below0 := rfl
set_option maxRecDepth 65536 in
theorem w_args : argsFit about1.vm theMethod args0 = true := by decide +kernel
set_option maxRecDepth 65536 in
theorem w_heap : heapFits about1 = true := by decide +kernel
set_option maxRecDepth 65536 in
theorem w_runnable : about1.curStatus? = some .runnable := by decide +kernel
set_option maxRecDepth 65536 in
theorem w_alone : about1.alone = true := by decide +kernel
set_option maxRecDepth 65536 in
theorem w_named : about1.methodNamed? x = some theMethod := by decide +kernel
set_option maxRecDepth 65536 in
theorem w_hears : about1.hears theMethod below0 = true := by decide +kernel
set_option maxRecDepth 65536 in
theorem w_ripe : about1.ripe theMethod args0 below0 = true := by decide +kernel
theorem w_running : about1.status = .running := rfl
set_option maxRecDepth 65536 in
theorem w_room : about1.hasRoom e0.platform room_1 = true :=
  launch0.hasRoom_least _ room_1 (by decide +kernel) (by decide +kernel) (by decide +kernel) (by decide +kernel) (by decide +kernel) (by decide +kernel)
theorem allAtoms_all (ts : List Jvm.Cond) (a : Array Jvm.Value) (st : Jvm.State) : (allAtoms ts).before a st = ts.all (fun c => c.before a st) := by
  induction ts with
  | nil => rfl
  | cons c t ih =>
    show (Jvm.Cond.and c (allAtoms t)).before a st = _
    rw [Jvm.Cond.before_and, ih, List.all_cons]
def words1 : List Jvm.Cond := Jvm.Cond.code x code maxLocals ret :: tables_1
/-- a 'code' word, met by the world's own term for the bytes: nothing is compared byte by byte -/
theorem code_word {y : MethodName} {bytes : ByteArray} {mx : Nat} {rt : Option FieldType} {a : Array Value} {s : State} {m : MethodId} {meth : Method} {c : Code} (h1 : s.methodNamed? y = some m) (h2 : s.vm.method? m = some meth) (h3 : meth.code = some c) (h4 : c.code = bytes)
    (h5 : (c.maxLocals == mx && c.exceptionTable.isEmpty && decide (c.maxStack ≤ mostOperands) && decide (meth.sig.returnType = rt) && !meth.locks && decide (parseMethodDescriptor y.desc = some meth.sig)) = true) : (Jvm.Cond.code y bytes mx rt).before a s = true := by
  simp only [Bool.and_eq_true, beq_iff_eq, Bool.not_eq_true', decide_eq_true_eq] at h5
  obtain ⟨⟨⟨⟨⟨g1, g2⟩, g3⟩, g4⟩, g5⟩, g6⟩ := h5
  simp [Cond.before, Cond.holds, Cond.value, h1, h2, h3, h4, g1, g2, g3, g4, g5, g6]
def isCode : Jvm.Cond → Bool
  | .code _ _ _ _ => true
  | _ => false
theorem all_split {L : List Jvm.Cond} {P : Jvm.Cond → Bool} (h1 : L.all (fun c => isCode c || P c) = true) (h2 : ∀ c ∈ L.filter isCode, P c = true) : L.all P = true := by
  refine List.all_eq_true.mpr fun c hc => ?_
  have h := List.all_eq_true.mp h1 c hc
  rcases Bool.eq_false_or_eq_true (isCode c) with hi | hi
  · exact h2 c (List.mem_filter.mpr ⟨hc, hi⟩)
  · simpa [hi] using h
set_option maxRecDepth 65536 in
theorem w_c0 : (Jvm.Cond.code x code maxLocals ret).before args0 about1 = true := code_word (m := ⟨1, 1⟩) (meth := k1m1) (c := k1c1) (by decide +kernel) rfl rfl rfl (by decide +kernel)
set_option maxRecDepth 65536 in
theorem w_c1 : (Jvm.Cond.code ({ cls := "com/example/zonewright/zonewright/storage/Room", name := "<init>", desc := "(Lcom/example/zonewright/zonewright/storage/PlanIndex;J)V" } : Jvm.MethodName) prog_26_method_1_code (4 : Nat) (Option.none : Option Jvm.ClassFile.FieldType)).before args0 about1 = true := code_word (m := ⟨3, 0⟩) (meth := k3m0) (c := k3c0) (by decide +kernel) rfl rfl rfl (by decide +kernel)
set_option maxRecDepth 65536 in
theorem w_c2 : (Jvm.Cond.code ({ cls := "java/lang/Object", name := "<init>", desc := "()V" } : Jvm.MethodName) object_method_1_code (1 : Nat) (Option.none : Option Jvm.ClassFile.FieldType)).before args0 about1 = true := code_word (m := ⟨0, 0⟩) (meth := k0m0) (c := k0c0) (by decide +kernel) rfl rfl rfl (by decide +kernel)
set_option maxRecDepth 65536 in
theorem w_c3 : (Jvm.Cond.code ({ cls := "com/example/zonewright/zonewright/storage/Room", name := "giveBack", desc := "()J" } : Jvm.MethodName) prog_26_method_2_code (3 : Nat) (Option.some Jvm.ClassFile.FieldType.long)).before args0 about1 = true := code_word (m := ⟨3, 1⟩) (meth := k3m1) (c := k3c1) (by decide +kernel) rfl rfl rfl (by decide +kernel)
def codes1 : List Jvm.Cond := [Jvm.Cond.code x code maxLocals ret, Jvm.Cond.code ({ cls := "com/example/zonewright/zonewright/storage/Room", name := "<init>", desc := "(Lcom/example/zonewright/zonewright/storage/PlanIndex;J)V" } : Jvm.MethodName) prog_26_method_1_code (4 : Nat) (Option.none : Option Jvm.ClassFile.FieldType), Jvm.Cond.code ({ cls := "java/lang/Object", name := "<init>", desc := "()V" } : Jvm.MethodName) object_method_1_code (1 : Nat) (Option.none : Option Jvm.ClassFile.FieldType), Jvm.Cond.code ({ cls := "com/example/zonewright/zonewright/storage/Room", name := "giveBack", desc := "()J" } : Jvm.MethodName) prog_26_method_2_code (3 : Nat) (Option.some Jvm.ClassFile.FieldType.long)]
set_option maxRecDepth 65536 in
theorem codes_eq : words1.filter isCode = codes1 := rfl
theorem w_codes : ∀ c ∈ words1.filter isCode, c.before args0 about1 = true := by
  rw [codes_eq]
  intro c hc
  simp only [codes1, List.mem_cons, List.not_mem_nil, or_false] at hc
  rcases hc with rfl | rfl | rfl | rfl
  · exact w_c0
  · exact w_c1
  · exact w_c2
  · exact w_c3
set_option maxRecDepth 65536 in
theorem w_t1 : words1.all (fun c => isCode c || c.before args0 about1) = true := by decide +kernel
theorem w_tables : (allAtoms (Jvm.Cond.code x code maxLocals ret :: tables_1)).before args0 about1 = true := by
  rw [allAtoms_all]
  show words1.all (fun c => c.before args0 about1) = true
  refine all_split ?_ w_codes
  rw [w_t1]
set_option maxRecDepth 65536 in
theorem w_case : (Jvm.Cond.and given_1 narrow_1).before args0 about1 = true := by decide +kernel
theorem w_applies : (headSpec (Jvm.Cond.code x code maxLocals ret :: tables_1) room_1).applies x e0.platform about1 = true :=
  (Spec.applies_iff w_frames).mpr ⟨w_running, w_runnable, w_alone, w_named, w_hears, w_ripe, w_room, w_tables⟩
theorem atStart : AtStart classFile x code maxLocals ret World_1 tables_1 room_1 Calls_1 rest_1 Pre_1 launch0 p0 e0 about1 theMethod args0 below0 :=
  ⟨lists_1, trivial, launch0.admits_env _ _ _, launch0.least_env, fairChoices_fair.cas, fairChoices_fair.clock, w_frames, w_args, w_heap, w_applies, trivial, trivial, w_case⟩
end start1
theorem witness_1 : WitnessClaimed_1 := ⟨start1.p0, start1.e0, start1.about1, start1.theMethod, start1.args0, start1.below0, start1.atStart⟩
end Jvm.Pilot.@@N@@
