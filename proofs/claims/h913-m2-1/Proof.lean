import JvmDerived
import JvmDerived.Pilot.@@N@@Statement
import JvmDerived.Pilot.@@N@@Code
set_option linter.unusedVariables false
set_option linter.unusedSimpArgs false
namespace Jvm.Pilot.@@N@@
open Jvm Jvm.ClassFile Sem Op Lib Jvm.Free Jvm.Stand Jvm.LawKit Jvm.RoadKit Bundle Jvm.Pilot.@@N@@.Jvm.D
section Own
variable {p : Program} {l : Launch} {e : Env} {R : Room} {s : State} {m : MethodId} {args : Array Value} {below : List Frame} {meth : Method} {c : Code} {T : State} {locs : List Loc} {cells slots : Nat} {Z : State} {a0 : Array Value} {h : Heap} {Φ : Outcome → State → Prop}
/-- what is left of a walk: from S the invocation ends as Φ says -/
def OGo (tb : Tables) (e : Env) (below : List Frame) (Φ : Outcome → State → Prop) (S : State) : Prop := ∃ s₂ o, Steps tb e below S s₂ ∧ s₂.status = .running ∧ Ended s₂ below o ∧ Φ o s₂
theorem OGo.st {tb : Tables} {S S' : State} (h : ∀ t, Steps tb e below S' t → Steps tb e below S t) (g : OGo tb e below Φ S') : OGo tb e below Φ S := by
  obtain ⟨s₂, o, h1, r⟩ := g
  exact ⟨s₂, o, h _ h1, r⟩
theorem OGo.fin (X : Stand p l e R s m args below meth c T locs cells slots) (hlk : meth.locks = false) {v : Option Value} (hv : meth.sig.returnType = none → v = none) {g : JFrame} {k n : Nat} (hk : cells ≤ k) (hn : slots ≤ n)
    (st : ∀ fs, (∀ (f : JFrame) (acts : List Action), f.method = m → f.locked = none → f.entered = [] → (doReturn e (T.setTop f) acts v).1 = T.setFrames fs) → Steps p.tables e below (T.setTop g) (T.setFrames fs))
    (hq : ∀ U, U.heap = T.heap → FrameEnd s (.returned v) U locs k n → Φ (.returned v) U) : OGo p.tables e below Φ (T.setTop g) := by
  obtain ⟨fs, hr, hrun, hended, hW, hsame⟩ := X.leave (v := v) hv hlk
  exact ⟨_, _, st fs hr, hrun, hended, hq _ rfl ⟨⟨_, rfl⟩, hW, hsame.mono hk hn⟩⟩
/-- a contract: what every body's theorem says -/
abbrev OCon (l : Launch) (Z : State) (y : MethodName) (bytes : ByteArray) (maxL : Nat) (ret : Option FieldType) (ws : List Jvm.Cond) (rm : Room) (as' : Array Value) (h0 : Heap) (Q : Option Value → Heap → List Loc → Prop) : Prop :=
  MetFree l y (head1 (Jvm.Cond.code y bytes maxL ret :: ws) rm) (fun a U => a = as' ∧ Z.Warmed39 U.vm ∧ U.heap = h0) (fun _ _ _ _ _ => True) (fun _ U o U' => ∃ v L, o = .returned v ∧ Q v U'.heap L ∧ FrameEnd U o U' L rm.cells rm.slots)
theorem OCon.of {y : MethodName} {bytes : ByteArray} {maxL : Nat} {ret : Option FieldType} {ws : List Jvm.Cond} {rm : Room} {as' : Array Value} {h0 : Heap} {Q : Option Value → Heap → List Loc → Prop} (hpl : plainFor y = true)
    (H : ∀ (p : Program) (e : Env) (s : State) (m : MethodId) (below : List Frame) (meth : Method) (c : Code) (s₁ : State) (Φ : Outcome → State → Prop), Stand p l e rm s m as' below meth c s₁ [] 0 0 → p.tables.exec = Jvm.exec → c.code = bytes → c.maxLocals = maxL → s.vm.findClass y.cls = some m.cls → meth.name = y.name → meth.sig.returnType = ret → meth.locks = false → Z.Warmed39 s.vm → s₁.heap = h0 →
      (∀ v L U, Q v U.heap L → FrameEnd s (.returned v) U L rm.cells rm.slots → Φ (.returned v) U) → OGo p.tables e below Φ (s₁.setTop (entryFrame m as' maxL))) :
    OCon l Z y bytes maxL ret ws rm as' h0 Q := by
  refine MetFree.of_bodySF hpl hisR ?_
  intro p e s m args below meth c s₁ Bd hml0 hP hK
  obtain ⟨rfl, hZ, hh⟩ := hP
  have e0 : s₁.heap = h0 := by rw [← hh, Bd.state]; rfl
  exact H p e s m below meth c s₁ _ (Stand.of_body Bd) Bd.exec Bd.bytes hml0 (findClass_of_methodNamed Bd.named) (name_of_methodNamed Bd.named Bd.method).1 Bd.returns Bd.notSynchronized hZ e0 (fun v L U hq hf => ⟨v, L, rfl, hq, hf⟩)
theorem own_callSt (X : Stand p l e R s m args below meth c T locs cells slots) (hx : p.tables.exec = Jvm.exec) (hZ : Z.Warmed39 s.vm) {own : String} {index : Nat} {y : MethodName} {bytes : ByteArray} {maxL : Nat} {ret : Option FieldType} {rm : Room} {as' : Array Value} {Q : Option Value → Heap → List Loc → Prop}
    (hown : s.vm.findClass own = some m.cls) (w1 : (Jvm.Cond.methodLink own index y).before a0 Z = true) (w2 : (Jvm.Cond.static y).before a0 Z = true) (w3 : (Jvm.Cond.initialized y.cls).before a0 Z = true) (w4 : (Jvm.Cond.code y bytes maxL ret).before a0 Z = true) (hy : y.cls ≠ "java/lang/invoke/MethodHandle" ∧ y.cls ≠ "java/lang/invoke/VarHandle")
    (hM : OCon l Z y bytes maxL ret [] rm as' h Q) (eT : T.heap = h) {W : Nat} (hf : rm.frames + 1 ≤ R.frames) (hl : W + (maxL + 11) + rm.locals ≤ R.locals) (hcl : cells + rm.cells ≤ R.cells) (hsl : slots + rm.slots ≤ R.slots)
    {pc : Nat} {ls : Array Slot} {stk : List Value} (hsize : ls.size = c.maxLocals) {argsL rest : List Value} (hlen : ∀ sig, parseMethodDescriptor y.desc = some sig → argsL.length = sig.parameters.length) (has : argsL.toArray = as') (hstack : stk = argsL.reverse ++ rest) (hW : (rest.map fun v => v.category).sum ≤ W)
    (hd : decode c.code pc = .ok (.invokestatic index, 3)) :
    ∃ v T' L, Stand p l e R s m args below meth c T' (locs ++ L) (cells + rm.cells) (slots + rm.slots) ∧ Q v T'.heap L ∧ ∀ target, Steps p.tables e below (T'.setTop (mkF m (pc + 3) ls (v.toList ++ rest))) target → Steps p.tables e below (T.setTop (mkF m pc ls stk)) target := by
  subst has
  obtain ⟨v, vm₁, ⟨T', L', k', n'⟩, -, X', ⟨L, hQ, l1, y1, z1⟩, st⟩ := Jvm.LawKit.callS X hx (y := y) hown (mvT hZ w1) (mvT hZ w2) (mvT hZ w3) (mvT hZ w4) hy (backOf (W := W) hM hZ w4 w3 hf hl) (g := mkF m pc ls stk) rfl hsize (argsL := argsL) (rest := rest) hlen hstack (by simpa using hW) hd (fun _ _ => ⟨rfl, eT, hcl, hsl⟩)
  dsimp only [Pt.U, Pt.locs, Pt.cells, Pt.slots] at X' l1 y1 z1 st hQ
  subst l1 y1 z1
  exact ⟨v, T', L, X', hQ, st⟩
theorem own_callSp (X : Stand p l e R s m args below meth c T locs cells slots) (hx : p.tables.exec = Jvm.exec) (hZ : Z.Warmed39 s.vm) {own : String} {index : Nat} {y : MethodName} {bytes : ByteArray} {maxL : Nat} {rm : Room} {as' : Array Value} {Q : Option Value → Heap → List Loc → Prop}
    (hy1 : y.name = "<init>") (hown : s.vm.findClass own = some m.cls) (w1 : (Jvm.Cond.methodLink own index y).before a0 Z = true) (w2 : (Jvm.Cond.instanceMethod y).before a0 Z = true) (w3 : (Jvm.Cond.initialized y.cls).before a0 Z = true) (w4 : (Jvm.Cond.code y bytes maxL none).before a0 Z = true) (hy : y.cls ≠ "java/lang/invoke/MethodHandle" ∧ y.cls ≠ "java/lang/invoke/VarHandle")
    (hM : OCon l Z y bytes maxL none [] rm as' h Q) (eT : T.heap = h) {W : Nat} (hf : rm.frames + 1 ≤ R.frames) (hl : W + (maxL + 11) + rm.locals ≤ R.locals) (hcl : cells + rm.cells ≤ R.cells) (hsl : slots + rm.slots ≤ R.slots)
    {pc : Nat} {ls : Array Slot} {stk : List Value} (hsize : ls.size = c.maxLocals) {a : Addr} {argsL rest : List Value} (hlen : ∀ sig, parseMethodDescriptor y.desc = some sig → argsL.length = sig.parameters.length) (has : (.ref a :: argsL).toArray = as') (hstack : stk = argsL.reverse ++ .ref a :: rest) (hW : (rest.map fun v => v.category).sum ≤ W)
    (hd : decode c.code pc = .ok (.invokespecial index, 3)) :
    ∃ v T' L, Stand p l e R s m args below meth c T' (locs ++ L) (cells + rm.cells) (slots + rm.slots) ∧ Q v T'.heap L ∧ ∀ target, Steps p.tables e below (T'.setTop (mkF m (pc + 3) ls (v.toList ++ rest))) target → Steps p.tables e below (T.setTop (mkF m pc ls stk)) target := by
  subst has
  obtain ⟨v, vm₁, ⟨T', L', k', n'⟩, -, X', ⟨L, hQ, l1, y1, z1⟩, st⟩ := X.specialBack hx (y := y) hy1 hown (mvT hZ w1) (mvT hZ w2) (mvT hZ w4) hy (backOf (W := W) hM hZ w4 w3 hf hl) (g := mkF m pc ls stk) rfl hsize (Steps.refl _) (a := a) (argsL := argsL) (rest := rest) hlen hstack (by simpa using hW) hd (fun _ _ => ⟨rfl, eT, hcl, hsl⟩)
  dsimp only [Pt.U, Pt.locs, Pt.cells, Pt.slots] at X' l1 y1 z1 st hQ
  subst l1 y1 z1
  exact ⟨v, T', L, X', hQ, fun t k => st.trans k⟩
theorem own_callVi (X : Stand p l e R s m args below meth c T locs cells slots) (hx : p.tables.exec = Jvm.exec) (hZ : Z.Warmed39 s.vm) {own C : String} {index : Nat} {y z : MethodName} {bytes : ByteArray} {maxL : Nat} {ret : Option FieldType} {rm : Room} {as' : Array Value} {Q : Option Value → Heap → List Loc → Prop}
    (hown : s.vm.findClass own = some m.cls) (w1 : (Jvm.Cond.methodLink own index y).before a0 Z = true) (w2 : (Jvm.Cond.declares y).before a0 Z = true) (nf : NotFace s y) (w3 : (Jvm.Cond.selects C y z).before a0 Z = true) (w4 : (Jvm.Cond.instanceMethod z).before a0 Z = true) (w5 : (Jvm.Cond.initialized z.cls).before a0 Z = true) (w6 : (Jvm.Cond.code z bytes maxL ret).before a0 Z = true) (hy : y.cls ≠ "java/lang/invoke/MethodHandle" ∧ y.cls ≠ "java/lang/invoke/VarHandle")
    (hM : OCon l Z z bytes maxL ret [] rm as' h Q) (eT : T.heap = h) {W : Nat} (hf : rm.frames + 1 ≤ R.frames) (hl : W + (maxL + 11) + rm.locals ≤ R.locals) (hcl : cells + rm.cells ≤ R.cells) (hsl : slots + rm.slots ≤ R.slots) {a : Addr} (E : Exa Z h a C)
    {pc : Nat} {ls : Array Slot} {stk : List Value} (hsize : ls.size = c.maxLocals) {argsL rest : List Value} (hlen : ∀ sig, parseMethodDescriptor y.desc = some sig → argsL.length = sig.parameters.length) (has : (.ref a :: argsL).toArray = as') (hstack : stk = argsL.reverse ++ .ref a :: rest) (hW : (rest.map fun v => v.category).sum ≤ W)
    (hd : decode c.code pc = .ok (.invokevirtual index, 3)) :
    ∃ v T' L, Stand p l e R s m args below meth c T' (locs ++ L) (cells + rm.cells) (slots + rm.slots) ∧ Q v T'.heap L ∧ ∀ target, Steps p.tables e below (T'.setTop (mkF m (pc + 3) ls (v.toList ++ rest))) target → Steps p.tables e below (T.setTop (mkF m pc ls stk)) target := by
  subst has
  obtain ⟨cq, kq, qa, qb, qc⟩ := isOf hZ eT E
  obtain ⟨v, vm₁, ⟨T', L', k', n'⟩, -, X', ⟨L, hQ, l1, y1, z1⟩, st⟩ := X.virtualBack hx (y := y) (z := z) hown (mvT hZ w1) (mvT hZ w2) nf (mvT hZ w3) (mvT hZ w4) hy (backOf (W := W) hM hZ w6 w5 hf hl) qa qc (g := mkF m pc ls stk) rfl hsize (Steps.refl _) (argsL := argsL) (rest := rest) hlen hstack (by simpa using hW) hd (fun _ _ => ⟨rfl, eT, hcl, hsl⟩)
  dsimp only [Pt.U, Pt.locs, Pt.cells, Pt.slots] at X' l1 y1 z1 st hQ
  subst l1 y1 z1
  exact ⟨v, T', L, X', hQ, fun t k => st.trans k⟩
theorem own_lremM {g : JFrame} {target : State} (X : Stand p l e R s m args below meth c T locs cells slots) (hx : p.tables.exec = Jvm.exec) (hg : g.method = m) {x y : Int64} {rest : List Value} (hd : decode c.code g.pc = .ok (.lrem, 1)) (hs : g.stack = .long y :: .long x :: rest) (hy : y ≠ 0)
    (hr : Steps p.tables e below (T.setTop { g with pc := g.pc + 1, stack := .long (x % y) :: rest }) target) : Steps p.tables e below (T.setTop g) target :=
  XT.lrem X.here hx hg hd hs hy (by rw [lrem_mod]; exact hr)
theorem own_nz {x : Int32} (q : x = 0 ∨ x = 1) : narrow .boolean (.int x) = .int x := by rcases q with rfl | rfl <;> rfl
theorem own_fz {x : Int32} (q : x = 0 ∨ x = 1) : fits .boolean (.int x) = true := by rcases q with rfl | rfl <;> rfl
theorem own_irr (x : Int32) : ¬ x < x := fun q => absurd (Int32.lt_iff_toInt_lt.mp q) (Int.lt_irrefl _)
theorem own_irrL (x : Int64) : ¬ x < x := fun q => absurd (Int64.lt_iff_toInt_lt.mp q) (Int.lt_irrefl _)
/-- a small int is one of the first n -/
theorem own_small {n : Nat} (hn : n < 2 ^ 31) (x : Int32) (h0 : ¬ x < 0) (h1 : x.toInt < n) : ∃ k : Fin n, x = Int32.ofInt k.val := by
  have h2 : 0 ≤ x.toInt := by
    rcases Int.lt_or_le x.toInt 0 with q | q
    · exact absurd (Int32.lt_iff_toInt_lt.mpr q) h0
    · exact q
  refine ⟨⟨x.toInt.toNat, by omega⟩, ?_⟩
  rw [Int.toNat_of_nonneg h2, Int32.ofInt_toInt]
end Own
theorem ow0 {Z : State} {a0 : Array Value} (hw : ∀ d ∈ tables_1, d.before a0 Z = true) : (Jvm.Cond.constant "com/example/tersewire/tersewire/RecordTypeHashPinLaw" (8 : Nat) (2147483647 : Int32)).before a0 Z = true := hw _ (List.mem_of_getElem? (i := 0) rfl)
theorem ow1 {Z : State} {a0 : Array Value} (hw : ∀ d ∈ tables_1, d.before a0 Z = true) : (Jvm.Cond.arrayClass Jvm.ClassFile.FieldType.int).before a0 Z = true := hw _ (List.mem_of_getElem? (i := 1) rfl)
theorem ow2 {Z : State} {a0 : Array Value} (hw : ∀ d ∈ tables_1, d.before a0 Z = true) : (Jvm.Cond.methodLink "com/example/tersewire/tersewire/RecordTypeHashPinLaw" (9 : Nat) ({ cls := "com/example/tersewire/tersewire/RecordTypeHashPinLaw", name := "pow31", desc := "(I)I" } : Jvm.MethodName)).before a0 Z = true := hw _ (List.mem_of_getElem? (i := 2) rfl)
theorem ow3 {Z : State} {a0 : Array Value} (hw : ∀ d ∈ tables_1, d.before a0 Z = true) : (Jvm.Cond.static ({ cls := "com/example/tersewire/tersewire/RecordTypeHashPinLaw", name := "pow31", desc := "(I)I" } : Jvm.MethodName)).before a0 Z = true := hw _ (List.mem_of_getElem? (i := 3) rfl)
theorem ow4 {Z : State} {a0 : Array Value} (hw : ∀ d ∈ tables_1, d.before a0 Z = true) : (Jvm.Cond.initialized "com/example/tersewire/tersewire/RecordTypeHashPinLaw").before a0 Z = true := hw _ (List.mem_of_getElem? (i := 4) rfl)
theorem ow5 {Z : State} {a0 : Array Value} (hw : ∀ d ∈ tables_1, d.before a0 Z = true) : (Jvm.Cond.code ({ cls := "com/example/tersewire/tersewire/RecordTypeHashPinLaw", name := "pow31", desc := "(I)I" } : Jvm.MethodName) method_2_code (1 : Nat) (Option.some Jvm.ClassFile.FieldType.int)).before a0 Z = true := hw _ (List.mem_of_getElem? (i := 5) rfl)
theorem ow6 {Z : State} {a0 : Array Value} (hw : ∀ d ∈ tables_1, d.before a0 Z = true) : (Jvm.Cond.methodLink "com/example/tersewire/tersewire/RecordTypeHashPinLaw" (15 : Nat) ({ cls := "com/example/tersewire/tersewire/RecordType", name := "hash", desc := "(I[II)I" } : Jvm.MethodName)).before a0 Z = true := hw _ (List.mem_of_getElem? (i := 6) rfl)
theorem ow7 {Z : State} {a0 : Array Value} (hw : ∀ d ∈ tables_1, d.before a0 Z = true) : (Jvm.Cond.static ({ cls := "com/example/tersewire/tersewire/RecordType", name := "hash", desc := "(I[II)I" } : Jvm.MethodName)).before a0 Z = true := hw _ (List.mem_of_getElem? (i := 7) rfl)
theorem ow8 {Z : State} {a0 : Array Value} (hw : ∀ d ∈ tables_1, d.before a0 Z = true) : (Jvm.Cond.initialized "com/example/tersewire/tersewire/RecordType").before a0 Z = true := hw _ (List.mem_of_getElem? (i := 8) rfl)
theorem ow9 {Z : State} {a0 : Array Value} (hw : ∀ d ∈ tables_1, d.before a0 Z = true) : (Jvm.Cond.code ({ cls := "com/example/tersewire/tersewire/RecordType", name := "hash", desc := "(I[II)I" } : Jvm.MethodName) prog_12_method_2_code (5 : Nat) (Option.some Jvm.ClassFile.FieldType.int)).before a0 Z = true := hw _ (List.mem_of_getElem? (i := 9) rfl)
theorem ow10 {Z : State} {a0 : Array Value} (hw : ∀ d ∈ tables_1, d.before a0 Z = true) : (Jvm.Cond.constant "com/example/tersewire/tersewire/RecordTypeHashPinLaw" (7 : Nat) (923521 : Int32)).before a0 Z = true := hw _ (List.mem_of_getElem? (i := 10) rfl)
def own_pow (k : Int32) : Int32 := if k = 0 then 1 else if k = 1 then 31 else if k = 2 then 961 else if k = 3 then 29791 else 923521
theorem own_mod5 (c : Int32) : (c &&& 2147483647) % 5 = 0 ∨ (c &&& 2147483647) % 5 = 1 ∨ (c &&& 2147483647) % 5 = 2 ∨ (c &&& 2147483647) % 5 = 3 ∨ (c &&& 2147483647) % 5 = 4 := by
  have h1 := c_mask c 2147483647 31 (by decide) (by decide)
  have h2 := (c_irem (c &&& 2147483647) 5 5 (by decide)).1 (by omega)
  have h3 : ∀ k : Int32, ((c &&& 2147483647) % 5).toInt = k.toInt → (c &&& 2147483647) % 5 = k := fun k q => Int32.toInt_inj.mp q
  have a0 : (0 : Int32).toInt = 0 := by decide
  have a1 : (1 : Int32).toInt = 1 := by decide
  have a2 : (2 : Int32).toInt = 2 := by decide
  have a3 : (3 : Int32).toInt = 3 := by decide
  have a4 : (4 : Int32).toInt = 4 := by decide
  have : ((c &&& 2147483647) % 5).toInt = 0 ∨ ((c &&& 2147483647) % 5).toInt = 1 ∨ ((c &&& 2147483647) % 5).toInt = 2 ∨ ((c &&& 2147483647) % 5).toInt = 3 ∨ ((c &&& 2147483647) % 5).toInt = 4 := by omega
  rcases this with q | q | q | q | q
  · exact Or.inl (h3 0 (by rw [q, a0]))
  · exact Or.inr (Or.inl (h3 1 (by rw [q, a1])))
  · exact Or.inr (Or.inr (Or.inl (h3 2 (by rw [q, a2]))))
  · exact Or.inr (Or.inr (Or.inr (Or.inl (h3 3 (by rw [q, a3])))))
  · exact Or.inr (Or.inr (Or.inr (Or.inr (h3 4 (by rw [q, a4])))))
theorem own_pow0 : own_pow (0 : Int32) = (1 : Int32) := by decide
theorem own_pow1 : own_pow (1 : Int32) = (31 : Int32) := by decide
theorem own_pow2 : own_pow (2 : Int32) = (961 : Int32) := by decide
theorem own_pow3 : own_pow (3 : Int32) = (29791 : Int32) := by decide
theorem own_pow4 : own_pow (4 : Int32) = (923521 : Int32) := by decide

theorem pn0 : plainName "com/example/tersewire/tersewire/RecordTypeHashPinLaw" = true := by first | (simp [plainName, overriddenIn]; done) | decide +kernel
theorem d_method_2_0 : decode method_2_code 0 = .ok (.iload_n 0, 1) := by decide +kernel
theorem d_method_2_1 : decode method_2_code 1 = .ok (.ifCond .ne 5, 3) := by decide +kernel
theorem d_method_2_4 : decode method_2_code 4 = .ok (.iconst 1, 1) := by decide +kernel
theorem d_method_2_5 : decode method_2_code 5 = .ok (.ireturn, 1) := by decide +kernel
theorem d_method_2_6 : decode method_2_code 6 = .ok (.iload_n 0, 1) := by decide +kernel
theorem d_method_2_7 : decode method_2_code 7 = .ok (.iconst 1, 1) := by decide +kernel
theorem d_method_2_8 : decode method_2_code 8 = .ok (.if_icmp .ne 6, 3) := by decide +kernel
theorem d_method_2_11 : decode method_2_code 11 = .ok (.bipush 31, 2) := by decide +kernel
theorem d_method_2_13 : decode method_2_code 13 = .ok (.ireturn, 1) := by decide +kernel
theorem d_method_2_14 : decode method_2_code 14 = .ok (.iload_n 0, 1) := by decide +kernel
theorem d_method_2_15 : decode method_2_code 15 = .ok (.iconst 2, 1) := by decide +kernel
theorem d_method_2_16 : decode method_2_code 16 = .ok (.if_icmp .ne 7, 3) := by decide +kernel
theorem d_method_2_19 : decode method_2_code 19 = .ok (.sipush 961, 3) := by decide +kernel
theorem d_method_2_22 : decode method_2_code 22 = .ok (.ireturn, 1) := by decide +kernel
theorem d_method_2_23 : decode method_2_code 23 = .ok (.iload_n 0, 1) := by decide +kernel
theorem d_method_2_24 : decode method_2_code 24 = .ok (.iconst 3, 1) := by decide +kernel
theorem d_method_2_25 : decode method_2_code 25 = .ok (.if_icmp .ne 7, 3) := by decide +kernel
theorem d_method_2_28 : decode method_2_code 28 = .ok (.sipush 29791, 3) := by decide +kernel
theorem d_method_2_31 : decode method_2_code 31 = .ok (.ireturn, 1) := by decide +kernel
theorem d_method_2_32 : decode method_2_code 32 = .ok (.ldc 7, 2) := by decide +kernel
theorem d_method_2_34 : decode method_2_code 34 = .ok (.ireturn, 1) := by decide +kernel
theorem ef_rm1 (m : MethodId) (x0 : Int32) : entryFrame m #[(.int x0)] 1 = mkF m 0 #[.val (.int x0)] [] := by first | (simp [entryFrame, mkF, argsToLocals, Value.category]; done) | rfl
def Q_rm1 (Z : State) (x0 : Int32) (h0 : Heap) (n0 : Nat) (v : Option Value) (h : Heap) (L : List Loc) : Prop := v = some (.int (own_pow x0)) ∧ Fr n0 L ∧ h = h0
set_option maxRecDepth 65536 in
set_option maxHeartbeats 40000000 in
theorem rm1 (l : Launch) (Z : State) (a0 : Array Value) (hw : ∀ d ∈ tables_1, d.before a0 Z = true) (ws : List Jvm.Cond) (x0 : Int32) (h0 : Heap) (n0 : Nat) (Z0 : n0 ≤ h0.size)  :
    OCon l Z (⟨"com/example/tersewire/tersewire/RecordTypeHashPinLaw", "pow31", "(I)I"⟩ : MethodName) method_2_code 1 (some .int) ws ({ frames := 0, cells := 0, slots := 0, locals := 0 } : Room) #[(.int x0)] h0 (Q_rm1 Z x0 h0 n0) := by
  refine OCon.of (plainFor_of_name pn0) ?_
  intro p e s m below meth c s₁ Φ X0 hx hby hml hown hnm hret hlk hZ e0 hΦ
  have N0 := Fr.nil n0
  refine OGo.st (fun _ kz => castTop (ef_rm1 m x0) kz) ?_
  show OGo p.tables e below Φ (s₁.setTop (mkF m 0 #[.val (.int x0)] []))
  refine OGo.st (fun _ kz => XS.iloadN X0.here hx rfl (hb hby d_method_2_0) rfl kz) ?_
  show OGo p.tables e below Φ (s₁.setTop (mkF m 1 #[.val (.int x0)] [(.int x0)]))
  by_cases hc1 : x0 = 0
  · refine OGo.st (fun _ kz => XS.ifNo X0.here hx rfl (hb hby d_method_2_1) rfl (XT.i0_ne_f hc1) kz) ?_
    show OGo p.tables e below Φ (s₁.setTop (mkF m 4 #[.val (.int x0)] []))
    refine OGo.st (fun _ kz => XS.iconst X0.here hx rfl (hb hby d_method_2_4) kz) ?_
    show OGo p.tables e below Φ (s₁.setTop (mkF m 5 #[.val (.int x0)] [(.int (1 : Int32))]))
    refine OGo.fin X0 hlk (v := (some (.int (1 : Int32)))) (fun h => by rw [hret] at h; cases h) (by decide) (by decide) (fun fs hr => X0.ireturnOut hx hret rfl (by simp) (hb hby d_method_2_5) hr) fun U eU hF => hΦ _ _ _ ?_ hF
    rw [eU, e0]
    show Q_rm1 Z x0 h0 n0 _ _ _
    exact ⟨by simp [own_pow, hc1], N0, rfl⟩
  · refine OGo.st (fun _ kz => XS.ifYes X0.here hx rfl (pc0 := 1) (pc' := 6) rfl (hb hby d_method_2_1) rfl (XT.i0_ne_t hc1) (by decide) (by decide) kz) ?_
    show OGo p.tables e below Φ (s₁.setTop (mkF m 6 #[.val (.int x0)] []))
    refine OGo.st (fun _ kz => XS.iloadN X0.here hx rfl (hb hby d_method_2_6) rfl kz) ?_
    show OGo p.tables e below Φ (s₁.setTop (mkF m 7 #[.val (.int x0)] [(.int x0)]))
    refine OGo.st (fun _ kz => XS.iconst X0.here hx rfl (hb hby d_method_2_7) kz) ?_
    show OGo p.tables e below Φ (s₁.setTop (mkF m 8 #[.val (.int x0)] [(.int (1 : Int32)), (.int x0)]))
    by_cases hc2 : x0 = (1 : Int32)
    · refine OGo.st (fun _ kz => XS.icmpNo X0.here hx rfl (hb hby d_method_2_8) rfl (XT.ii_ne_f hc2) kz) ?_
      show OGo p.tables e below Φ (s₁.setTop (mkF m 11 #[.val (.int x0)] []))
      refine OGo.st (fun _ kz => XS.bipush X0.here hx rfl (hb hby d_method_2_11) kz) ?_
      show OGo p.tables e below Φ (s₁.setTop (mkF m 13 #[.val (.int x0)] [(.int (31 : Int32))]))
      refine OGo.fin X0 hlk (v := (some (.int (31 : Int32)))) (fun h => by rw [hret] at h; cases h) (by decide) (by decide) (fun fs hr => X0.ireturnOut hx hret rfl (by simp) (hb hby d_method_2_13) hr) fun U eU hF => hΦ _ _ _ ?_ hF
      rw [eU, e0]
      show Q_rm1 Z x0 h0 n0 _ _ _
      exact ⟨by simp [own_pow, hc1, hc2], N0, rfl⟩
    · refine OGo.st (fun _ kz => XS.icmpYes X0.here hx rfl (pc0 := 8) (pc' := 14) rfl (hb hby d_method_2_8) rfl (XT.ii_ne_t hc2) (by decide) (by decide) kz) ?_
      show OGo p.tables e below Φ (s₁.setTop (mkF m 14 #[.val (.int x0)] []))
      refine OGo.st (fun _ kz => XS.iloadN X0.here hx rfl (hb hby d_method_2_14) rfl kz) ?_
      show OGo p.tables e below Φ (s₁.setTop (mkF m 15 #[.val (.int x0)] [(.int x0)]))
      refine OGo.st (fun _ kz => XS.iconst X0.here hx rfl (hb hby d_method_2_15) kz) ?_
      show OGo p.tables e below Φ (s₁.setTop (mkF m 16 #[.val (.int x0)] [(.int (2 : Int32)), (.int x0)]))
      by_cases hc3 : x0 = (2 : Int32)
      · refine OGo.st (fun _ kz => XS.icmpNo X0.here hx rfl (hb hby d_method_2_16) rfl (XT.ii_ne_f hc3) kz) ?_
        show OGo p.tables e below Φ (s₁.setTop (mkF m 19 #[.val (.int x0)] []))
        refine OGo.st (fun _ kz => XS.sipush X0.here hx rfl (hb hby d_method_2_19) kz) ?_
        show OGo p.tables e below Φ (s₁.setTop (mkF m 22 #[.val (.int x0)] [(.int (961 : Int32))]))
        refine OGo.fin X0 hlk (v := (some (.int (961 : Int32)))) (fun h => by rw [hret] at h; cases h) (by decide) (by decide) (fun fs hr => X0.ireturnOut hx hret rfl (by simp) (hb hby d_method_2_22) hr) fun U eU hF => hΦ _ _ _ ?_ hF
        rw [eU, e0]
        show Q_rm1 Z x0 h0 n0 _ _ _
        exact ⟨by simp [own_pow, hc1, hc2, hc3], N0, rfl⟩
      · refine OGo.st (fun _ kz => XS.icmpYes X0.here hx rfl (pc0 := 16) (pc' := 23) rfl (hb hby d_method_2_16) rfl (XT.ii_ne_t hc3) (by decide) (by decide) kz) ?_
        show OGo p.tables e below Φ (s₁.setTop (mkF m 23 #[.val (.int x0)] []))
        refine OGo.st (fun _ kz => XS.iloadN X0.here hx rfl (hb hby d_method_2_23) rfl kz) ?_
        show OGo p.tables e below Φ (s₁.setTop (mkF m 24 #[.val (.int x0)] [(.int x0)]))
        refine OGo.st (fun _ kz => XS.iconst X0.here hx rfl (hb hby d_method_2_24) kz) ?_
        show OGo p.tables e below Φ (s₁.setTop (mkF m 25 #[.val (.int x0)] [(.int (3 : Int32)), (.int x0)]))
        by_cases hc4 : x0 = (3 : Int32)
        · refine OGo.st (fun _ kz => XS.icmpNo X0.here hx rfl (hb hby d_method_2_25) rfl (XT.ii_ne_f hc4) kz) ?_
          show OGo p.tables e below Φ (s₁.setTop (mkF m 28 #[.val (.int x0)] []))
          refine OGo.st (fun _ kz => XS.sipush X0.here hx rfl (hb hby d_method_2_28) kz) ?_
          show OGo p.tables e below Φ (s₁.setTop (mkF m 31 #[.val (.int x0)] [(.int (29791 : Int32))]))
          refine OGo.fin X0 hlk (v := (some (.int (29791 : Int32)))) (fun h => by rw [hret] at h; cases h) (by decide) (by decide) (fun fs hr => X0.ireturnOut hx hret rfl (by simp) (hb hby d_method_2_31) hr) fun U eU hF => hΦ _ _ _ ?_ hF
          rw [eU, e0]
          show Q_rm1 Z x0 h0 n0 _ _ _
          exact ⟨by simp [own_pow, hc1, hc2, hc3, hc4], N0, rfl⟩
        · refine OGo.st (fun _ kz => XS.icmpYes X0.here hx rfl (pc0 := 25) (pc' := 32) rfl (hb hby d_method_2_25) rfl (XT.ii_ne_t hc4) (by decide) (by decide) kz) ?_
          show OGo p.tables e below Φ (s₁.setTop (mkF m 32 #[.val (.int x0)] []))
          refine OGo.st (fun _ kz => X0.ldcI hx hown (mvT hZ (ow10 hw)) rfl (hb hby d_method_2_32) kz) ?_
          show OGo p.tables e below Φ (s₁.setTop (mkF m 34 #[.val (.int x0)] [(.int (923521 : Int32))]))
          refine OGo.fin X0 hlk (v := (some (.int (923521 : Int32)))) (fun h => by rw [hret] at h; cases h) (by decide) (by decide) (fun fs hr => X0.ireturnOut hx hret rfl (by simp) (hb hby d_method_2_34) hr) fun U eU hF => hΦ _ _ _ ?_ hF
          rw [eU, e0]
          show Q_rm1 Z x0 h0 n0 _ _ _
          exact ⟨by simp [own_pow, hc1, hc2, hc3, hc4], N0, rfl⟩

theorem pn1 : plainName "com/example/tersewire/tersewire/RecordType" = true := by first | (simp [plainName, overriddenIn]; done) | decide +kernel
theorem d_prog_12_method_2_0 : decode prog_12_method_2_code 0 = .ok (.iload_n 0, 1) := by decide +kernel
theorem d_prog_12_method_2_1 : decode prog_12_method_2_code 1 = .ok (.istore_n 3, 1) := by decide +kernel
theorem d_prog_12_method_2_2 : decode prog_12_method_2_code 2 = .ok (.iconst 0, 1) := by decide +kernel
theorem d_prog_12_method_2_3 : decode prog_12_method_2_code 3 = .ok (.istore 4, 2) := by decide +kernel
theorem d_prog_12_method_2_5 : decode prog_12_method_2_code 5 = .ok (.iload 4, 2) := by decide +kernel
theorem d_prog_12_method_2_7 : decode prog_12_method_2_code 7 = .ok (.iload_n 2, 1) := by decide +kernel
theorem d_prog_12_method_2_8 : decode prog_12_method_2_code 8 = .ok (.if_icmp .ge 19, 3) := by decide +kernel
theorem d_prog_12_method_2_27 : decode prog_12_method_2_code 27 = .ok (.iload_n 3, 1) := by decide +kernel
theorem d_prog_12_method_2_28 : decode prog_12_method_2_code 28 = .ok (.ireturn, 1) := by decide +kernel
theorem ef_rm2_0 (m : MethodId) (x0 : Int32) (x1 : Addr) (x2 : Int32) : entryFrame m #[(.int x0), (.ref x1), (.int x2)] 5 = mkF m 0 #[.val (.int x0), .val (.ref x1), .val (.int x2), .unset, .unset] [] := by first | (simp [entryFrame, mkF, argsToLocals, Value.category]; done) | rfl
def Q_rm2_0 (Z : State) (n : Int32) (a : Addr) (ca : ClassId) (q0 : Int32) (q1 : Int32) (q2 : Int32) (q3 : Int32) (h0 : Heap) (n0 : Nat) (v : Option Value) (h : Heap) (L : List Loc) : Prop := v = some (.int n) ∧ Fr n0 L ∧ h = h0
set_option maxRecDepth 65536 in
set_option maxHeartbeats 40000000 in
theorem rm2_0 (l : Launch) (Z : State) (a0 : Array Value) (hw : ∀ d ∈ tables_1, d.before a0 Z = true) (ws : List Jvm.Cond) (n : Int32) (a : Addr) (ca : ClassId) (q0 : Int32) (q1 : Int32) (q2 : Int32) (q3 : Int32) (h0 : Heap) (n0 : Nat) (Z0 : n0 ≤ h0.size) (V_a : Arv Z h0 a ca .int (4 : Int32) [(.int q0), (.int q1), (.int q2), (.int q3)] (.int (0 : Int32))) :
    OCon l Z (⟨"com/example/tersewire/tersewire/RecordType", "hash", "(I[II)I"⟩ : MethodName) prog_12_method_2_code 5 (some .int) ws ({ frames := 0, cells := 0, slots := 0, locals := 0 } : Room) #[(.int n), (.ref a), (.int (0 : Int32))] h0 (Q_rm2_0 Z n a ca q0 q1 q2 q3 h0 n0) := by
  refine OCon.of (plainFor_of_name pn1) ?_
  intro p e s m below meth c s₁ Φ X0 hx hby hml hown hnm hret hlk hZ e0 hΦ
  have N0 := Fr.nil n0
  refine OGo.st (fun _ kz => castTop (ef_rm2_0 m n a (0 : Int32)) kz) ?_
  show OGo p.tables e below Φ (s₁.setTop (mkF m 0 #[.val (.int n), .val (.ref a), .val (.int (0 : Int32)), .unset, .unset] []))
  refine OGo.st (fun _ kz => XS.iloadN X0.here hx rfl (hb hby d_prog_12_method_2_0) rfl kz) ?_
  show OGo p.tables e below Φ (s₁.setTop (mkF m 1 #[.val (.int n), .val (.ref a), .val (.int (0 : Int32)), .unset, .unset] [(.int n)]))
  refine OGo.st (fun _ kz => XS.istoreN X0.here hx rfl (hb hby d_prog_12_method_2_1) rfl (l' := #[.val (.int n), .val (.ref a), .val (.int (0 : Int32)), .val (.int n), .unset]) rfl kz) ?_
  show OGo p.tables e below Φ (s₁.setTop (mkF m 2 #[.val (.int n), .val (.ref a), .val (.int (0 : Int32)), .val (.int n), .unset] []))
  refine OGo.st (fun _ kz => XS.iconst X0.here hx rfl (hb hby d_prog_12_method_2_2) kz) ?_
  show OGo p.tables e below Φ (s₁.setTop (mkF m 3 #[.val (.int n), .val (.ref a), .val (.int (0 : Int32)), .val (.int n), .unset] [(.int (0 : Int32))]))
  refine OGo.st (fun _ kz => XS.istore X0.here hx rfl (hb hby d_prog_12_method_2_3) rfl (l' := #[.val (.int n), .val (.ref a), .val (.int (0 : Int32)), .val (.int n), .val (.int (0 : Int32))]) rfl kz) ?_
  show OGo p.tables e below Φ (s₁.setTop (mkF m 5 #[.val (.int n), .val (.ref a), .val (.int (0 : Int32)), .val (.int n), .val (.int (0 : Int32))] []))
  refine OGo.st (fun _ kz => XS.iload X0.here hx rfl (hb hby d_prog_12_method_2_5) rfl kz) ?_
  show OGo p.tables e below Φ (s₁.setTop (mkF m 7 #[.val (.int n), .val (.ref a), .val (.int (0 : Int32)), .val (.int n), .val (.int (0 : Int32))] [(.int (0 : Int32))]))
  refine OGo.st (fun _ kz => XS.iloadN X0.here hx rfl (hb hby d_prog_12_method_2_7) rfl kz) ?_
  show OGo p.tables e below Φ (s₁.setTop (mkF m 8 #[.val (.int n), .val (.ref a), .val (.int (0 : Int32)), .val (.int n), .val (.int (0 : Int32))] [(.int (0 : Int32)), (.int (0 : Int32))]))
  refine OGo.st (fun _ kz => XS.icmpYes X0.here hx rfl (pc0 := 8) (pc' := 27) rfl (hb hby d_prog_12_method_2_8) rfl (XT.ii_ge_t (by decide)) (by decide) (by decide) kz) ?_
  show OGo p.tables e below Φ (s₁.setTop (mkF m 27 #[.val (.int n), .val (.ref a), .val (.int (0 : Int32)), .val (.int n), .val (.int (0 : Int32))] []))
  refine OGo.st (fun _ kz => XS.iloadN X0.here hx rfl (hb hby d_prog_12_method_2_27) rfl kz) ?_
  show OGo p.tables e below Φ (s₁.setTop (mkF m 28 #[.val (.int n), .val (.ref a), .val (.int (0 : Int32)), .val (.int n), .val (.int (0 : Int32))] [(.int n)]))
  refine OGo.fin X0 hlk (v := (some (.int n))) (fun h => by rw [hret] at h; cases h) (by decide) (by decide) (fun fs hr => X0.ireturnOut hx hret rfl (by simp) (hb hby d_prog_12_method_2_28) hr) fun U eU hF => hΦ _ _ _ ?_ hF
  rw [eU, e0]
  show Q_rm2_0 Z n a ca q0 q1 q2 q3 h0 n0 _ _ _
  exact ⟨rfl, N0, rfl⟩

theorem d_prog_12_method_2_11 : decode prog_12_method_2_code 11 = .ok (.bipush 31, 2) := by decide +kernel
theorem d_prog_12_method_2_13 : decode prog_12_method_2_code 13 = .ok (.iload_n 3, 1) := by decide +kernel
theorem d_prog_12_method_2_14 : decode prog_12_method_2_code 14 = .ok (.imul, 1) := by decide +kernel
theorem d_prog_12_method_2_15 : decode prog_12_method_2_code 15 = .ok (.aload_n 1, 1) := by decide +kernel
theorem d_prog_12_method_2_16 : decode prog_12_method_2_code 16 = .ok (.iload 4, 2) := by decide +kernel
theorem d_prog_12_method_2_18 : decode prog_12_method_2_code 18 = .ok (.iaload, 1) := by decide +kernel
theorem d_prog_12_method_2_19 : decode prog_12_method_2_code 19 = .ok (.iadd, 1) := by decide +kernel
theorem d_prog_12_method_2_20 : decode prog_12_method_2_code 20 = .ok (.istore_n 3, 1) := by decide +kernel
theorem d_prog_12_method_2_21 : decode prog_12_method_2_code 21 = .ok (.iinc 4 1, 3) := by decide +kernel
theorem d_prog_12_method_2_24 : decode prog_12_method_2_code 24 = .ok (.goto (-19), 3) := by decide +kernel
theorem ef_rm2_1 (m : MethodId) (x0 : Int32) (x1 : Addr) (x2 : Int32) : entryFrame m #[(.int x0), (.ref x1), (.int x2)] 5 = mkF m 0 #[.val (.int x0), .val (.ref x1), .val (.int x2), .unset, .unset] [] := by first | (simp [entryFrame, mkF, argsToLocals, Value.category]; done) | rfl
def Q_rm2_1 (Z : State) (n : Int32) (a : Addr) (ca : ClassId) (q0 : Int32) (q1 : Int32) (q2 : Int32) (q3 : Int32) (h0 : Heap) (n0 : Nat) (v : Option Value) (h : Heap) (L : List Loc) : Prop := v = some (.int (((31 : Int32) * n) + q0)) ∧ Fr n0 L ∧ h = h0
set_option maxRecDepth 65536 in
set_option maxHeartbeats 40000000 in
theorem rm2_1 (l : Launch) (Z : State) (a0 : Array Value) (hw : ∀ d ∈ tables_1, d.before a0 Z = true) (ws : List Jvm.Cond) (n : Int32) (a : Addr) (ca : ClassId) (q0 : Int32) (q1 : Int32) (q2 : Int32) (q3 : Int32) (h0 : Heap) (n0 : Nat) (Z0 : n0 ≤ h0.size) (V_a : Arv Z h0 a ca .int (4 : Int32) [(.int q0), (.int q1), (.int q2), (.int q3)] (.int (0 : Int32))) :
    OCon l Z (⟨"com/example/tersewire/tersewire/RecordType", "hash", "(I[II)I"⟩ : MethodName) prog_12_method_2_code 5 (some .int) ws ({ frames := 0, cells := 0, slots := 0, locals := 0 } : Room) #[(.int n), (.ref a), (.int (1 : Int32))] h0 (Q_rm2_1 Z n a ca q0 q1 q2 q3 h0 n0) := by
  refine OCon.of (plainFor_of_name pn1) ?_
  intro p e s m below meth c s₁ Φ X0 hx hby hml hown hnm hret hlk hZ e0 hΦ
  have N0 := Fr.nil n0
  refine OGo.st (fun _ kz => castTop (ef_rm2_1 m n a (1 : Int32)) kz) ?_
  show OGo p.tables e below Φ (s₁.setTop (mkF m 0 #[.val (.int n), .val (.ref a), .val (.int (1 : Int32)), .unset, .unset] []))
  refine OGo.st (fun _ kz => XS.iloadN X0.here hx rfl (hb hby d_prog_12_method_2_0) rfl kz) ?_
  show OGo p.tables e below Φ (s₁.setTop (mkF m 1 #[.val (.int n), .val (.ref a), .val (.int (1 : Int32)), .unset, .unset] [(.int n)]))
  refine OGo.st (fun _ kz => XS.istoreN X0.here hx rfl (hb hby d_prog_12_method_2_1) rfl (l' := #[.val (.int n), .val (.ref a), .val (.int (1 : Int32)), .val (.int n), .unset]) rfl kz) ?_
  show OGo p.tables e below Φ (s₁.setTop (mkF m 2 #[.val (.int n), .val (.ref a), .val (.int (1 : Int32)), .val (.int n), .unset] []))
  refine OGo.st (fun _ kz => XS.iconst X0.here hx rfl (hb hby d_prog_12_method_2_2) kz) ?_
  show OGo p.tables e below Φ (s₁.setTop (mkF m 3 #[.val (.int n), .val (.ref a), .val (.int (1 : Int32)), .val (.int n), .unset] [(.int (0 : Int32))]))
  refine OGo.st (fun _ kz => XS.istore X0.here hx rfl (hb hby d_prog_12_method_2_3) rfl (l' := #[.val (.int n), .val (.ref a), .val (.int (1 : Int32)), .val (.int n), .val (.int (0 : Int32))]) rfl kz) ?_
  show OGo p.tables e below Φ (s₁.setTop (mkF m 5 #[.val (.int n), .val (.ref a), .val (.int (1 : Int32)), .val (.int n), .val (.int (0 : Int32))] []))
  refine OGo.st (fun _ kz => XS.iload X0.here hx rfl (hb hby d_prog_12_method_2_5) rfl kz) ?_
  show OGo p.tables e below Φ (s₁.setTop (mkF m 7 #[.val (.int n), .val (.ref a), .val (.int (1 : Int32)), .val (.int n), .val (.int (0 : Int32))] [(.int (0 : Int32))]))
  refine OGo.st (fun _ kz => XS.iloadN X0.here hx rfl (hb hby d_prog_12_method_2_7) rfl kz) ?_
  show OGo p.tables e below Φ (s₁.setTop (mkF m 8 #[.val (.int n), .val (.ref a), .val (.int (1 : Int32)), .val (.int n), .val (.int (0 : Int32))] [(.int (1 : Int32)), (.int (0 : Int32))]))
  refine OGo.st (fun _ kz => XS.icmpNo X0.here hx rfl (hb hby d_prog_12_method_2_8) rfl (XT.ii_ge_f (by decide)) kz) ?_
  show OGo p.tables e below Φ (s₁.setTop (mkF m 11 #[.val (.int n), .val (.ref a), .val (.int (1 : Int32)), .val (.int n), .val (.int (0 : Int32))] []))
  refine OGo.st (fun _ kz => XS.bipush X0.here hx rfl (hb hby d_prog_12_method_2_11) kz) ?_
  show OGo p.tables e below Φ (s₁.setTop (mkF m 13 #[.val (.int n), .val (.ref a), .val (.int (1 : Int32)), .val (.int n), .val (.int (0 : Int32))] [(.int (31 : Int32))]))
  refine OGo.st (fun _ kz => XS.iloadN X0.here hx rfl (hb hby d_prog_12_method_2_13) rfl kz) ?_
  show OGo p.tables e below Φ (s₁.setTop (mkF m 14 #[.val (.int n), .val (.ref a), .val (.int (1 : Int32)), .val (.int n), .val (.int (0 : Int32))] [(.int n), (.int (31 : Int32))]))
  refine OGo.st (fun _ kz => XS.imul X0.here hx rfl (hb hby d_prog_12_method_2_14) rfl kz) ?_
  show OGo p.tables e below Φ (s₁.setTop (mkF m 15 #[.val (.int n), .val (.ref a), .val (.int (1 : Int32)), .val (.int n), .val (.int (0 : Int32))] [(.int ((31 : Int32) * n))]))
  refine OGo.st (fun _ kz => XS.aloadN X0.here hx rfl (hb hby d_prog_12_method_2_15) rfl rfl kz) ?_
  show OGo p.tables e below Φ (s₁.setTop (mkF m 16 #[.val (.int n), .val (.ref a), .val (.int (1 : Int32)), .val (.int n), .val (.int (0 : Int32))] [(.ref a), (.int ((31 : Int32) * n))]))
  refine OGo.st (fun _ kz => XS.iload X0.here hx rfl (hb hby d_prog_12_method_2_16) rfl kz) ?_
  show OGo p.tables e below Φ (s₁.setTop (mkF m 18 #[.val (.int n), .val (.ref a), .val (.int (1 : Int32)), .val (.int n), .val (.int (0 : Int32))] [(.int (0 : Int32)), (.ref a), (.int ((31 : Int32) * n))]))
  obtain ⟨cl1, Aq1, -, S1, M1, H1, -⟩ := id V_a
  have in1 : ¬ ((0 : Int32) < 0 ∨ cl1.slots.size ≤ (0 : Int32).toNatClampNeg) := inb_of S1 ⟨by decide, by decide⟩
  have at1 : cl1.slots[(0 : Int32).toNatClampNeg]? = some (.int q0) := H1.at in1 rfl
  refine OGo.st (fun _ kz => X0.iaload hx (by rw [e0]; exact Aq1.1) (State.isArrayOf_alike hZ.alike Aq1.2.1) Aq1.2.2 in1 at1 (g := (mkF m 18 #[.val (.int n), .val (.ref a), .val (.int (1 : Int32)), .val (.int n), .val (.int (0 : Int32))] [(.int (0 : Int32)), (.ref a), (.int ((31 : Int32) * n))])) rfl rfl (hb hby d_prog_12_method_2_18) _ kz) ?_
  show OGo p.tables e below Φ (s₁.setTop (mkF m 19 #[.val (.int n), .val (.ref a), .val (.int (1 : Int32)), .val (.int n), .val (.int (0 : Int32))] [(.int q0), (.int ((31 : Int32) * n))]))
  refine OGo.st (fun _ kz => XS.iadd X0.here hx rfl (hb hby d_prog_12_method_2_19) rfl kz) ?_
  show OGo p.tables e below Φ (s₁.setTop (mkF m 20 #[.val (.int n), .val (.ref a), .val (.int (1 : Int32)), .val (.int n), .val (.int (0 : Int32))] [(.int (((31 : Int32) * n) + q0))]))
  refine OGo.st (fun _ kz => XS.istoreN X0.here hx rfl (hb hby d_prog_12_method_2_20) rfl (l' := #[.val (.int n), .val (.ref a), .val (.int (1 : Int32)), .val (.int (((31 : Int32) * n) + q0)), .val (.int (0 : Int32))]) rfl kz) ?_
  show OGo p.tables e below Φ (s₁.setTop (mkF m 21 #[.val (.int n), .val (.ref a), .val (.int (1 : Int32)), .val (.int (((31 : Int32) * n) + q0)), .val (.int (0 : Int32))] []))
  refine OGo.st (fun _ kz => XS.iinc X0.here hx rfl (hb hby d_prog_12_method_2_21) rfl (l' := #[.val (.int n), .val (.ref a), .val (.int (1 : Int32)), .val (.int (((31 : Int32) * n) + q0)), .val (.int ((0 : Int32) + (1 : Int32)))]) rfl kz) ?_
  show OGo p.tables e below Φ (s₁.setTop (mkF m 24 #[.val (.int n), .val (.ref a), .val (.int (1 : Int32)), .val (.int (((31 : Int32) * n) + q0)), .val (.int (1 : Int32))] []))
  refine OGo.st (fun _ kz => XS.goto X0.here hx rfl (pc0 := 24) (pc' := 5) rfl (hb hby d_prog_12_method_2_24) (by decide) (by decide) kz) ?_
  show OGo p.tables e below Φ (s₁.setTop (mkF m 5 #[.val (.int n), .val (.ref a), .val (.int (1 : Int32)), .val (.int (((31 : Int32) * n) + q0)), .val (.int (1 : Int32))] []))
  refine OGo.st (fun _ kz => XS.iload X0.here hx rfl (hb hby d_prog_12_method_2_5) rfl kz) ?_
  show OGo p.tables e below Φ (s₁.setTop (mkF m 7 #[.val (.int n), .val (.ref a), .val (.int (1 : Int32)), .val (.int (((31 : Int32) * n) + q0)), .val (.int (1 : Int32))] [(.int (1 : Int32))]))
  refine OGo.st (fun _ kz => XS.iloadN X0.here hx rfl (hb hby d_prog_12_method_2_7) rfl kz) ?_
  show OGo p.tables e below Φ (s₁.setTop (mkF m 8 #[.val (.int n), .val (.ref a), .val (.int (1 : Int32)), .val (.int (((31 : Int32) * n) + q0)), .val (.int (1 : Int32))] [(.int (1 : Int32)), (.int (1 : Int32))]))
  refine OGo.st (fun _ kz => XS.icmpYes X0.here hx rfl (pc0 := 8) (pc' := 27) rfl (hb hby d_prog_12_method_2_8) rfl (XT.ii_ge_t (by decide)) (by decide) (by decide) kz) ?_
  show OGo p.tables e below Φ (s₁.setTop (mkF m 27 #[.val (.int n), .val (.ref a), .val (.int (1 : Int32)), .val (.int (((31 : Int32) * n) + q0)), .val (.int (1 : Int32))] []))
  refine OGo.st (fun _ kz => XS.iloadN X0.here hx rfl (hb hby d_prog_12_method_2_27) rfl kz) ?_
  show OGo p.tables e below Φ (s₁.setTop (mkF m 28 #[.val (.int n), .val (.ref a), .val (.int (1 : Int32)), .val (.int (((31 : Int32) * n) + q0)), .val (.int (1 : Int32))] [(.int (((31 : Int32) * n) + q0))]))
  refine OGo.fin X0 hlk (v := (some (.int (((31 : Int32) * n) + q0)))) (fun h => by rw [hret] at h; cases h) (by decide) (by decide) (fun fs hr => X0.ireturnOut hx hret rfl (by simp) (hb hby d_prog_12_method_2_28) hr) fun U eU hF => hΦ _ _ _ ?_ hF
  rw [eU, e0]
  show Q_rm2_1 Z n a ca q0 q1 q2 q3 h0 n0 _ _ _
  exact ⟨rfl, N0, rfl⟩

theorem ef_rm2_2 (m : MethodId) (x0 : Int32) (x1 : Addr) (x2 : Int32) : entryFrame m #[(.int x0), (.ref x1), (.int x2)] 5 = mkF m 0 #[.val (.int x0), .val (.ref x1), .val (.int x2), .unset, .unset] [] := by first | (simp [entryFrame, mkF, argsToLocals, Value.category]; done) | rfl
def Q_rm2_2 (Z : State) (n : Int32) (a : Addr) (ca : ClassId) (q0 : Int32) (q1 : Int32) (q2 : Int32) (q3 : Int32) (h0 : Heap) (n0 : Nat) (v : Option Value) (h : Heap) (L : List Loc) : Prop := v = some (.int (((31 : Int32) * (((31 : Int32) * n) + q0)) + q1)) ∧ Fr n0 L ∧ h = h0
set_option maxRecDepth 65536 in
set_option maxHeartbeats 40000000 in
theorem rm2_2 (l : Launch) (Z : State) (a0 : Array Value) (hw : ∀ d ∈ tables_1, d.before a0 Z = true) (ws : List Jvm.Cond) (n : Int32) (a : Addr) (ca : ClassId) (q0 : Int32) (q1 : Int32) (q2 : Int32) (q3 : Int32) (h0 : Heap) (n0 : Nat) (Z0 : n0 ≤ h0.size) (V_a : Arv Z h0 a ca .int (4 : Int32) [(.int q0), (.int q1), (.int q2), (.int q3)] (.int (0 : Int32))) :
    OCon l Z (⟨"com/example/tersewire/tersewire/RecordType", "hash", "(I[II)I"⟩ : MethodName) prog_12_method_2_code 5 (some .int) ws ({ frames := 0, cells := 0, slots := 0, locals := 0 } : Room) #[(.int n), (.ref a), (.int (2 : Int32))] h0 (Q_rm2_2 Z n a ca q0 q1 q2 q3 h0 n0) := by
  refine OCon.of (plainFor_of_name pn1) ?_
  intro p e s m below meth c s₁ Φ X0 hx hby hml hown hnm hret hlk hZ e0 hΦ
  have N0 := Fr.nil n0
  refine OGo.st (fun _ kz => castTop (ef_rm2_2 m n a (2 : Int32)) kz) ?_
  show OGo p.tables e below Φ (s₁.setTop (mkF m 0 #[.val (.int n), .val (.ref a), .val (.int (2 : Int32)), .unset, .unset] []))
  refine OGo.st (fun _ kz => XS.iloadN X0.here hx rfl (hb hby d_prog_12_method_2_0) rfl kz) ?_
  show OGo p.tables e below Φ (s₁.setTop (mkF m 1 #[.val (.int n), .val (.ref a), .val (.int (2 : Int32)), .unset, .unset] [(.int n)]))
  refine OGo.st (fun _ kz => XS.istoreN X0.here hx rfl (hb hby d_prog_12_method_2_1) rfl (l' := #[.val (.int n), .val (.ref a), .val (.int (2 : Int32)), .val (.int n), .unset]) rfl kz) ?_
  show OGo p.tables e below Φ (s₁.setTop (mkF m 2 #[.val (.int n), .val (.ref a), .val (.int (2 : Int32)), .val (.int n), .unset] []))
  refine OGo.st (fun _ kz => XS.iconst X0.here hx rfl (hb hby d_prog_12_method_2_2) kz) ?_
  show OGo p.tables e below Φ (s₁.setTop (mkF m 3 #[.val (.int n), .val (.ref a), .val (.int (2 : Int32)), .val (.int n), .unset] [(.int (0 : Int32))]))
  refine OGo.st (fun _ kz => XS.istore X0.here hx rfl (hb hby d_prog_12_method_2_3) rfl (l' := #[.val (.int n), .val (.ref a), .val (.int (2 : Int32)), .val (.int n), .val (.int (0 : Int32))]) rfl kz) ?_
  show OGo p.tables e below Φ (s₁.setTop (mkF m 5 #[.val (.int n), .val (.ref a), .val (.int (2 : Int32)), .val (.int n), .val (.int (0 : Int32))] []))
  refine OGo.st (fun _ kz => XS.iload X0.here hx rfl (hb hby d_prog_12_method_2_5) rfl kz) ?_
  show OGo p.tables e below Φ (s₁.setTop (mkF m 7 #[.val (.int n), .val (.ref a), .val (.int (2 : Int32)), .val (.int n), .val (.int (0 : Int32))] [(.int (0 : Int32))]))
  refine OGo.st (fun _ kz => XS.iloadN X0.here hx rfl (hb hby d_prog_12_method_2_7) rfl kz) ?_
  show OGo p.tables e below Φ (s₁.setTop (mkF m 8 #[.val (.int n), .val (.ref a), .val (.int (2 : Int32)), .val (.int n), .val (.int (0 : Int32))] [(.int (2 : Int32)), (.int (0 : Int32))]))
  refine OGo.st (fun _ kz => XS.icmpNo X0.here hx rfl (hb hby d_prog_12_method_2_8) rfl (XT.ii_ge_f (by decide)) kz) ?_
  show OGo p.tables e below Φ (s₁.setTop (mkF m 11 #[.val (.int n), .val (.ref a), .val (.int (2 : Int32)), .val (.int n), .val (.int (0 : Int32))] []))
  refine OGo.st (fun _ kz => XS.bipush X0.here hx rfl (hb hby d_prog_12_method_2_11) kz) ?_
  show OGo p.tables e below Φ (s₁.setTop (mkF m 13 #[.val (.int n), .val (.ref a), .val (.int (2 : Int32)), .val (.int n), .val (.int (0 : Int32))] [(.int (31 : Int32))]))
  refine OGo.st (fun _ kz => XS.iloadN X0.here hx rfl (hb hby d_prog_12_method_2_13) rfl kz) ?_
  show OGo p.tables e below Φ (s₁.setTop (mkF m 14 #[.val (.int n), .val (.ref a), .val (.int (2 : Int32)), .val (.int n), .val (.int (0 : Int32))] [(.int n), (.int (31 : Int32))]))
  refine OGo.st (fun _ kz => XS.imul X0.here hx rfl (hb hby d_prog_12_method_2_14) rfl kz) ?_
  show OGo p.tables e below Φ (s₁.setTop (mkF m 15 #[.val (.int n), .val (.ref a), .val (.int (2 : Int32)), .val (.int n), .val (.int (0 : Int32))] [(.int ((31 : Int32) * n))]))
  refine OGo.st (fun _ kz => XS.aloadN X0.here hx rfl (hb hby d_prog_12_method_2_15) rfl rfl kz) ?_
  show OGo p.tables e below Φ (s₁.setTop (mkF m 16 #[.val (.int n), .val (.ref a), .val (.int (2 : Int32)), .val (.int n), .val (.int (0 : Int32))] [(.ref a), (.int ((31 : Int32) * n))]))
  refine OGo.st (fun _ kz => XS.iload X0.here hx rfl (hb hby d_prog_12_method_2_16) rfl kz) ?_
  show OGo p.tables e below Φ (s₁.setTop (mkF m 18 #[.val (.int n), .val (.ref a), .val (.int (2 : Int32)), .val (.int n), .val (.int (0 : Int32))] [(.int (0 : Int32)), (.ref a), (.int ((31 : Int32) * n))]))
  obtain ⟨cl1, Aq1, -, S1, M1, H1, -⟩ := id V_a
  have in1 : ¬ ((0 : Int32) < 0 ∨ cl1.slots.size ≤ (0 : Int32).toNatClampNeg) := inb_of S1 ⟨by decide, by decide⟩
  have at1 : cl1.slots[(0 : Int32).toNatClampNeg]? = some (.int q0) := H1.at in1 rfl
  refine OGo.st (fun _ kz => X0.iaload hx (by rw [e0]; exact Aq1.1) (State.isArrayOf_alike hZ.alike Aq1.2.1) Aq1.2.2 in1 at1 (g := (mkF m 18 #[.val (.int n), .val (.ref a), .val (.int (2 : Int32)), .val (.int n), .val (.int (0 : Int32))] [(.int (0 : Int32)), (.ref a), (.int ((31 : Int32) * n))])) rfl rfl (hb hby d_prog_12_method_2_18) _ kz) ?_
  show OGo p.tables e below Φ (s₁.setTop (mkF m 19 #[.val (.int n), .val (.ref a), .val (.int (2 : Int32)), .val (.int n), .val (.int (0 : Int32))] [(.int q0), (.int ((31 : Int32) * n))]))
  refine OGo.st (fun _ kz => XS.iadd X0.here hx rfl (hb hby d_prog_12_method_2_19) rfl kz) ?_
  show OGo p.tables e below Φ (s₁.setTop (mkF m 20 #[.val (.int n), .val (.ref a), .val (.int (2 : Int32)), .val (.int n), .val (.int (0 : Int32))] [(.int (((31 : Int32) * n) + q0))]))
  refine OGo.st (fun _ kz => XS.istoreN X0.here hx rfl (hb hby d_prog_12_method_2_20) rfl (l' := #[.val (.int n), .val (.ref a), .val (.int (2 : Int32)), .val (.int (((31 : Int32) * n) + q0)), .val (.int (0 : Int32))]) rfl kz) ?_
  show OGo p.tables e below Φ (s₁.setTop (mkF m 21 #[.val (.int n), .val (.ref a), .val (.int (2 : Int32)), .val (.int (((31 : Int32) * n) + q0)), .val (.int (0 : Int32))] []))
  refine OGo.st (fun _ kz => XS.iinc X0.here hx rfl (hb hby d_prog_12_method_2_21) rfl (l' := #[.val (.int n), .val (.ref a), .val (.int (2 : Int32)), .val (.int (((31 : Int32) * n) + q0)), .val (.int ((0 : Int32) + (1 : Int32)))]) rfl kz) ?_
  show OGo p.tables e below Φ (s₁.setTop (mkF m 24 #[.val (.int n), .val (.ref a), .val (.int (2 : Int32)), .val (.int (((31 : Int32) * n) + q0)), .val (.int (1 : Int32))] []))
  refine OGo.st (fun _ kz => XS.goto X0.here hx rfl (pc0 := 24) (pc' := 5) rfl (hb hby d_prog_12_method_2_24) (by decide) (by decide) kz) ?_
  show OGo p.tables e below Φ (s₁.setTop (mkF m 5 #[.val (.int n), .val (.ref a), .val (.int (2 : Int32)), .val (.int (((31 : Int32) * n) + q0)), .val (.int (1 : Int32))] []))
  refine OGo.st (fun _ kz => XS.iload X0.here hx rfl (hb hby d_prog_12_method_2_5) rfl kz) ?_
  show OGo p.tables e below Φ (s₁.setTop (mkF m 7 #[.val (.int n), .val (.ref a), .val (.int (2 : Int32)), .val (.int (((31 : Int32) * n) + q0)), .val (.int (1 : Int32))] [(.int (1 : Int32))]))
  refine OGo.st (fun _ kz => XS.iloadN X0.here hx rfl (hb hby d_prog_12_method_2_7) rfl kz) ?_
  show OGo p.tables e below Φ (s₁.setTop (mkF m 8 #[.val (.int n), .val (.ref a), .val (.int (2 : Int32)), .val (.int (((31 : Int32) * n) + q0)), .val (.int (1 : Int32))] [(.int (2 : Int32)), (.int (1 : Int32))]))
  refine OGo.st (fun _ kz => XS.icmpNo X0.here hx rfl (hb hby d_prog_12_method_2_8) rfl (XT.ii_ge_f (by decide)) kz) ?_
  show OGo p.tables e below Φ (s₁.setTop (mkF m 11 #[.val (.int n), .val (.ref a), .val (.int (2 : Int32)), .val (.int (((31 : Int32) * n) + q0)), .val (.int (1 : Int32))] []))
  refine OGo.st (fun _ kz => XS.bipush X0.here hx rfl (hb hby d_prog_12_method_2_11) kz) ?_
  show OGo p.tables e below Φ (s₁.setTop (mkF m 13 #[.val (.int n), .val (.ref a), .val (.int (2 : Int32)), .val (.int (((31 : Int32) * n) + q0)), .val (.int (1 : Int32))] [(.int (31 : Int32))]))
  refine OGo.st (fun _ kz => XS.iloadN X0.here hx rfl (hb hby d_prog_12_method_2_13) rfl kz) ?_
  show OGo p.tables e below Φ (s₁.setTop (mkF m 14 #[.val (.int n), .val (.ref a), .val (.int (2 : Int32)), .val (.int (((31 : Int32) * n) + q0)), .val (.int (1 : Int32))] [(.int (((31 : Int32) * n) + q0)), (.int (31 : Int32))]))
  refine OGo.st (fun _ kz => XS.imul X0.here hx rfl (hb hby d_prog_12_method_2_14) rfl kz) ?_
  show OGo p.tables e below Φ (s₁.setTop (mkF m 15 #[.val (.int n), .val (.ref a), .val (.int (2 : Int32)), .val (.int (((31 : Int32) * n) + q0)), .val (.int (1 : Int32))] [(.int ((31 : Int32) * (((31 : Int32) * n) + q0)))]))
  refine OGo.st (fun _ kz => XS.aloadN X0.here hx rfl (hb hby d_prog_12_method_2_15) rfl rfl kz) ?_
  show OGo p.tables e below Φ (s₁.setTop (mkF m 16 #[.val (.int n), .val (.ref a), .val (.int (2 : Int32)), .val (.int (((31 : Int32) * n) + q0)), .val (.int (1 : Int32))] [(.ref a), (.int ((31 : Int32) * (((31 : Int32) * n) + q0)))]))
  refine OGo.st (fun _ kz => XS.iload X0.here hx rfl (hb hby d_prog_12_method_2_16) rfl kz) ?_
  show OGo p.tables e below Φ (s₁.setTop (mkF m 18 #[.val (.int n), .val (.ref a), .val (.int (2 : Int32)), .val (.int (((31 : Int32) * n) + q0)), .val (.int (1 : Int32))] [(.int (1 : Int32)), (.ref a), (.int ((31 : Int32) * (((31 : Int32) * n) + q0)))]))
  obtain ⟨cl2, Aq2, -, S2, M2, H2, -⟩ := id V_a
  have in2 : ¬ ((1 : Int32) < 0 ∨ cl2.slots.size ≤ (1 : Int32).toNatClampNeg) := inb_of S2 ⟨by decide, by decide⟩
  have at2 : cl2.slots[(1 : Int32).toNatClampNeg]? = some (.int q1) := H2.at in2 rfl
  refine OGo.st (fun _ kz => X0.iaload hx (by rw [e0]; exact Aq2.1) (State.isArrayOf_alike hZ.alike Aq2.2.1) Aq2.2.2 in2 at2 (g := (mkF m 18 #[.val (.int n), .val (.ref a), .val (.int (2 : Int32)), .val (.int (((31 : Int32) * n) + q0)), .val (.int (1 : Int32))] [(.int (1 : Int32)), (.ref a), (.int ((31 : Int32) * (((31 : Int32) * n) + q0)))])) rfl rfl (hb hby d_prog_12_method_2_18) _ kz) ?_
  show OGo p.tables e below Φ (s₁.setTop (mkF m 19 #[.val (.int n), .val (.ref a), .val (.int (2 : Int32)), .val (.int (((31 : Int32) * n) + q0)), .val (.int (1 : Int32))] [(.int q1), (.int ((31 : Int32) * (((31 : Int32) * n) + q0)))]))
  refine OGo.st (fun _ kz => XS.iadd X0.here hx rfl (hb hby d_prog_12_method_2_19) rfl kz) ?_
  show OGo p.tables e below Φ (s₁.setTop (mkF m 20 #[.val (.int n), .val (.ref a), .val (.int (2 : Int32)), .val (.int (((31 : Int32) * n) + q0)), .val (.int (1 : Int32))] [(.int (((31 : Int32) * (((31 : Int32) * n) + q0)) + q1))]))
  refine OGo.st (fun _ kz => XS.istoreN X0.here hx rfl (hb hby d_prog_12_method_2_20) rfl (l' := #[.val (.int n), .val (.ref a), .val (.int (2 : Int32)), .val (.int (((31 : Int32) * (((31 : Int32) * n) + q0)) + q1)), .val (.int (1 : Int32))]) rfl kz) ?_
  show OGo p.tables e below Φ (s₁.setTop (mkF m 21 #[.val (.int n), .val (.ref a), .val (.int (2 : Int32)), .val (.int (((31 : Int32) * (((31 : Int32) * n) + q0)) + q1)), .val (.int (1 : Int32))] []))
  refine OGo.st (fun _ kz => XS.iinc X0.here hx rfl (hb hby d_prog_12_method_2_21) rfl (l' := #[.val (.int n), .val (.ref a), .val (.int (2 : Int32)), .val (.int (((31 : Int32) * (((31 : Int32) * n) + q0)) + q1)), .val (.int ((1 : Int32) + (1 : Int32)))]) rfl kz) ?_
  show OGo p.tables e below Φ (s₁.setTop (mkF m 24 #[.val (.int n), .val (.ref a), .val (.int (2 : Int32)), .val (.int (((31 : Int32) * (((31 : Int32) * n) + q0)) + q1)), .val (.int (2 : Int32))] []))
  refine OGo.st (fun _ kz => XS.goto X0.here hx rfl (pc0 := 24) (pc' := 5) rfl (hb hby d_prog_12_method_2_24) (by decide) (by decide) kz) ?_
  show OGo p.tables e below Φ (s₁.setTop (mkF m 5 #[.val (.int n), .val (.ref a), .val (.int (2 : Int32)), .val (.int (((31 : Int32) * (((31 : Int32) * n) + q0)) + q1)), .val (.int (2 : Int32))] []))
  refine OGo.st (fun _ kz => XS.iload X0.here hx rfl (hb hby d_prog_12_method_2_5) rfl kz) ?_
  show OGo p.tables e below Φ (s₁.setTop (mkF m 7 #[.val (.int n), .val (.ref a), .val (.int (2 : Int32)), .val (.int (((31 : Int32) * (((31 : Int32) * n) + q0)) + q1)), .val (.int (2 : Int32))] [(.int (2 : Int32))]))
  refine OGo.st (fun _ kz => XS.iloadN X0.here hx rfl (hb hby d_prog_12_method_2_7) rfl kz) ?_
  show OGo p.tables e below Φ (s₁.setTop (mkF m 8 #[.val (.int n), .val (.ref a), .val (.int (2 : Int32)), .val (.int (((31 : Int32) * (((31 : Int32) * n) + q0)) + q1)), .val (.int (2 : Int32))] [(.int (2 : Int32)), (.int (2 : Int32))]))
  refine OGo.st (fun _ kz => XS.icmpYes X0.here hx rfl (pc0 := 8) (pc' := 27) rfl (hb hby d_prog_12_method_2_8) rfl (XT.ii_ge_t (by decide)) (by decide) (by decide) kz) ?_
  show OGo p.tables e below Φ (s₁.setTop (mkF m 27 #[.val (.int n), .val (.ref a), .val (.int (2 : Int32)), .val (.int (((31 : Int32) * (((31 : Int32) * n) + q0)) + q1)), .val (.int (2 : Int32))] []))
  refine OGo.st (fun _ kz => XS.iloadN X0.here hx rfl (hb hby d_prog_12_method_2_27) rfl kz) ?_
  show OGo p.tables e below Φ (s₁.setTop (mkF m 28 #[.val (.int n), .val (.ref a), .val (.int (2 : Int32)), .val (.int (((31 : Int32) * (((31 : Int32) * n) + q0)) + q1)), .val (.int (2 : Int32))] [(.int (((31 : Int32) * (((31 : Int32) * n) + q0)) + q1))]))
  refine OGo.fin X0 hlk (v := (some (.int (((31 : Int32) * (((31 : Int32) * n) + q0)) + q1)))) (fun h => by rw [hret] at h; cases h) (by decide) (by decide) (fun fs hr => X0.ireturnOut hx hret rfl (by simp) (hb hby d_prog_12_method_2_28) hr) fun U eU hF => hΦ _ _ _ ?_ hF
  rw [eU, e0]
  show Q_rm2_2 Z n a ca q0 q1 q2 q3 h0 n0 _ _ _
  exact ⟨rfl, N0, rfl⟩

theorem ef_rm2_3 (m : MethodId) (x0 : Int32) (x1 : Addr) (x2 : Int32) : entryFrame m #[(.int x0), (.ref x1), (.int x2)] 5 = mkF m 0 #[.val (.int x0), .val (.ref x1), .val (.int x2), .unset, .unset] [] := by first | (simp [entryFrame, mkF, argsToLocals, Value.category]; done) | rfl
def Q_rm2_3 (Z : State) (n : Int32) (a : Addr) (ca : ClassId) (q0 : Int32) (q1 : Int32) (q2 : Int32) (q3 : Int32) (h0 : Heap) (n0 : Nat) (v : Option Value) (h : Heap) (L : List Loc) : Prop := v = some (.int (((31 : Int32) * (((31 : Int32) * (((31 : Int32) * n) + q0)) + q1)) + q2)) ∧ Fr n0 L ∧ h = h0
set_option maxRecDepth 65536 in
set_option maxHeartbeats 40000000 in
theorem rm2_3 (l : Launch) (Z : State) (a0 : Array Value) (hw : ∀ d ∈ tables_1, d.before a0 Z = true) (ws : List Jvm.Cond) (n : Int32) (a : Addr) (ca : ClassId) (q0 : Int32) (q1 : Int32) (q2 : Int32) (q3 : Int32) (h0 : Heap) (n0 : Nat) (Z0 : n0 ≤ h0.size) (V_a : Arv Z h0 a ca .int (4 : Int32) [(.int q0), (.int q1), (.int q2), (.int q3)] (.int (0 : Int32))) :
    OCon l Z (⟨"com/example/tersewire/tersewire/RecordType", "hash", "(I[II)I"⟩ : MethodName) prog_12_method_2_code 5 (some .int) ws ({ frames := 0, cells := 0, slots := 0, locals := 0 } : Room) #[(.int n), (.ref a), (.int (3 : Int32))] h0 (Q_rm2_3 Z n a ca q0 q1 q2 q3 h0 n0) := by
  refine OCon.of (plainFor_of_name pn1) ?_
  intro p e s m below meth c s₁ Φ X0 hx hby hml hown hnm hret hlk hZ e0 hΦ
  have N0 := Fr.nil n0
  refine OGo.st (fun _ kz => castTop (ef_rm2_3 m n a (3 : Int32)) kz) ?_
  show OGo p.tables e below Φ (s₁.setTop (mkF m 0 #[.val (.int n), .val (.ref a), .val (.int (3 : Int32)), .unset, .unset] []))
  refine OGo.st (fun _ kz => XS.iloadN X0.here hx rfl (hb hby d_prog_12_method_2_0) rfl kz) ?_
  show OGo p.tables e below Φ (s₁.setTop (mkF m 1 #[.val (.int n), .val (.ref a), .val (.int (3 : Int32)), .unset, .unset] [(.int n)]))
  refine OGo.st (fun _ kz => XS.istoreN X0.here hx rfl (hb hby d_prog_12_method_2_1) rfl (l' := #[.val (.int n), .val (.ref a), .val (.int (3 : Int32)), .val (.int n), .unset]) rfl kz) ?_
  show OGo p.tables e below Φ (s₁.setTop (mkF m 2 #[.val (.int n), .val (.ref a), .val (.int (3 : Int32)), .val (.int n), .unset] []))
  refine OGo.st (fun _ kz => XS.iconst X0.here hx rfl (hb hby d_prog_12_method_2_2) kz) ?_
  show OGo p.tables e below Φ (s₁.setTop (mkF m 3 #[.val (.int n), .val (.ref a), .val (.int (3 : Int32)), .val (.int n), .unset] [(.int (0 : Int32))]))
  refine OGo.st (fun _ kz => XS.istore X0.here hx rfl (hb hby d_prog_12_method_2_3) rfl (l' := #[.val (.int n), .val (.ref a), .val (.int (3 : Int32)), .val (.int n), .val (.int (0 : Int32))]) rfl kz) ?_
  show OGo p.tables e below Φ (s₁.setTop (mkF m 5 #[.val (.int n), .val (.ref a), .val (.int (3 : Int32)), .val (.int n), .val (.int (0 : Int32))] []))
  refine OGo.st (fun _ kz => XS.iload X0.here hx rfl (hb hby d_prog_12_method_2_5) rfl kz) ?_
  show OGo p.tables e below Φ (s₁.setTop (mkF m 7 #[.val (.int n), .val (.ref a), .val (.int (3 : Int32)), .val (.int n), .val (.int (0 : Int32))] [(.int (0 : Int32))]))
  refine OGo.st (fun _ kz => XS.iloadN X0.here hx rfl (hb hby d_prog_12_method_2_7) rfl kz) ?_
  show OGo p.tables e below Φ (s₁.setTop (mkF m 8 #[.val (.int n), .val (.ref a), .val (.int (3 : Int32)), .val (.int n), .val (.int (0 : Int32))] [(.int (3 : Int32)), (.int (0 : Int32))]))
  refine OGo.st (fun _ kz => XS.icmpNo X0.here hx rfl (hb hby d_prog_12_method_2_8) rfl (XT.ii_ge_f (by decide)) kz) ?_
  show OGo p.tables e below Φ (s₁.setTop (mkF m 11 #[.val (.int n), .val (.ref a), .val (.int (3 : Int32)), .val (.int n), .val (.int (0 : Int32))] []))
  refine OGo.st (fun _ kz => XS.bipush X0.here hx rfl (hb hby d_prog_12_method_2_11) kz) ?_
  show OGo p.tables e below Φ (s₁.setTop (mkF m 13 #[.val (.int n), .val (.ref a), .val (.int (3 : Int32)), .val (.int n), .val (.int (0 : Int32))] [(.int (31 : Int32))]))
  refine OGo.st (fun _ kz => XS.iloadN X0.here hx rfl (hb hby d_prog_12_method_2_13) rfl kz) ?_
  show OGo p.tables e below Φ (s₁.setTop (mkF m 14 #[.val (.int n), .val (.ref a), .val (.int (3 : Int32)), .val (.int n), .val (.int (0 : Int32))] [(.int n), (.int (31 : Int32))]))
  refine OGo.st (fun _ kz => XS.imul X0.here hx rfl (hb hby d_prog_12_method_2_14) rfl kz) ?_
  show OGo p.tables e below Φ (s₁.setTop (mkF m 15 #[.val (.int n), .val (.ref a), .val (.int (3 : Int32)), .val (.int n), .val (.int (0 : Int32))] [(.int ((31 : Int32) * n))]))
  refine OGo.st (fun _ kz => XS.aloadN X0.here hx rfl (hb hby d_prog_12_method_2_15) rfl rfl kz) ?_
  show OGo p.tables e below Φ (s₁.setTop (mkF m 16 #[.val (.int n), .val (.ref a), .val (.int (3 : Int32)), .val (.int n), .val (.int (0 : Int32))] [(.ref a), (.int ((31 : Int32) * n))]))
  refine OGo.st (fun _ kz => XS.iload X0.here hx rfl (hb hby d_prog_12_method_2_16) rfl kz) ?_
  show OGo p.tables e below Φ (s₁.setTop (mkF m 18 #[.val (.int n), .val (.ref a), .val (.int (3 : Int32)), .val (.int n), .val (.int (0 : Int32))] [(.int (0 : Int32)), (.ref a), (.int ((31 : Int32) * n))]))
  obtain ⟨cl1, Aq1, -, S1, M1, H1, -⟩ := id V_a
  have in1 : ¬ ((0 : Int32) < 0 ∨ cl1.slots.size ≤ (0 : Int32).toNatClampNeg) := inb_of S1 ⟨by decide, by decide⟩
  have at1 : cl1.slots[(0 : Int32).toNatClampNeg]? = some (.int q0) := H1.at in1 rfl
  refine OGo.st (fun _ kz => X0.iaload hx (by rw [e0]; exact Aq1.1) (State.isArrayOf_alike hZ.alike Aq1.2.1) Aq1.2.2 in1 at1 (g := (mkF m 18 #[.val (.int n), .val (.ref a), .val (.int (3 : Int32)), .val (.int n), .val (.int (0 : Int32))] [(.int (0 : Int32)), (.ref a), (.int ((31 : Int32) * n))])) rfl rfl (hb hby d_prog_12_method_2_18) _ kz) ?_
  show OGo p.tables e below Φ (s₁.setTop (mkF m 19 #[.val (.int n), .val (.ref a), .val (.int (3 : Int32)), .val (.int n), .val (.int (0 : Int32))] [(.int q0), (.int ((31 : Int32) * n))]))
  refine OGo.st (fun _ kz => XS.iadd X0.here hx rfl (hb hby d_prog_12_method_2_19) rfl kz) ?_
  show OGo p.tables e below Φ (s₁.setTop (mkF m 20 #[.val (.int n), .val (.ref a), .val (.int (3 : Int32)), .val (.int n), .val (.int (0 : Int32))] [(.int (((31 : Int32) * n) + q0))]))
  refine OGo.st (fun _ kz => XS.istoreN X0.here hx rfl (hb hby d_prog_12_method_2_20) rfl (l' := #[.val (.int n), .val (.ref a), .val (.int (3 : Int32)), .val (.int (((31 : Int32) * n) + q0)), .val (.int (0 : Int32))]) rfl kz) ?_
  show OGo p.tables e below Φ (s₁.setTop (mkF m 21 #[.val (.int n), .val (.ref a), .val (.int (3 : Int32)), .val (.int (((31 : Int32) * n) + q0)), .val (.int (0 : Int32))] []))
  refine OGo.st (fun _ kz => XS.iinc X0.here hx rfl (hb hby d_prog_12_method_2_21) rfl (l' := #[.val (.int n), .val (.ref a), .val (.int (3 : Int32)), .val (.int (((31 : Int32) * n) + q0)), .val (.int ((0 : Int32) + (1 : Int32)))]) rfl kz) ?_
  show OGo p.tables e below Φ (s₁.setTop (mkF m 24 #[.val (.int n), .val (.ref a), .val (.int (3 : Int32)), .val (.int (((31 : Int32) * n) + q0)), .val (.int (1 : Int32))] []))
  refine OGo.st (fun _ kz => XS.goto X0.here hx rfl (pc0 := 24) (pc' := 5) rfl (hb hby d_prog_12_method_2_24) (by decide) (by decide) kz) ?_
  show OGo p.tables e below Φ (s₁.setTop (mkF m 5 #[.val (.int n), .val (.ref a), .val (.int (3 : Int32)), .val (.int (((31 : Int32) * n) + q0)), .val (.int (1 : Int32))] []))
  refine OGo.st (fun _ kz => XS.iload X0.here hx rfl (hb hby d_prog_12_method_2_5) rfl kz) ?_
  show OGo p.tables e below Φ (s₁.setTop (mkF m 7 #[.val (.int n), .val (.ref a), .val (.int (3 : Int32)), .val (.int (((31 : Int32) * n) + q0)), .val (.int (1 : Int32))] [(.int (1 : Int32))]))
  refine OGo.st (fun _ kz => XS.iloadN X0.here hx rfl (hb hby d_prog_12_method_2_7) rfl kz) ?_
  show OGo p.tables e below Φ (s₁.setTop (mkF m 8 #[.val (.int n), .val (.ref a), .val (.int (3 : Int32)), .val (.int (((31 : Int32) * n) + q0)), .val (.int (1 : Int32))] [(.int (3 : Int32)), (.int (1 : Int32))]))
  refine OGo.st (fun _ kz => XS.icmpNo X0.here hx rfl (hb hby d_prog_12_method_2_8) rfl (XT.ii_ge_f (by decide)) kz) ?_
  show OGo p.tables e below Φ (s₁.setTop (mkF m 11 #[.val (.int n), .val (.ref a), .val (.int (3 : Int32)), .val (.int (((31 : Int32) * n) + q0)), .val (.int (1 : Int32))] []))
  refine OGo.st (fun _ kz => XS.bipush X0.here hx rfl (hb hby d_prog_12_method_2_11) kz) ?_
  show OGo p.tables e below Φ (s₁.setTop (mkF m 13 #[.val (.int n), .val (.ref a), .val (.int (3 : Int32)), .val (.int (((31 : Int32) * n) + q0)), .val (.int (1 : Int32))] [(.int (31 : Int32))]))
  refine OGo.st (fun _ kz => XS.iloadN X0.here hx rfl (hb hby d_prog_12_method_2_13) rfl kz) ?_
  show OGo p.tables e below Φ (s₁.setTop (mkF m 14 #[.val (.int n), .val (.ref a), .val (.int (3 : Int32)), .val (.int (((31 : Int32) * n) + q0)), .val (.int (1 : Int32))] [(.int (((31 : Int32) * n) + q0)), (.int (31 : Int32))]))
  refine OGo.st (fun _ kz => XS.imul X0.here hx rfl (hb hby d_prog_12_method_2_14) rfl kz) ?_
  show OGo p.tables e below Φ (s₁.setTop (mkF m 15 #[.val (.int n), .val (.ref a), .val (.int (3 : Int32)), .val (.int (((31 : Int32) * n) + q0)), .val (.int (1 : Int32))] [(.int ((31 : Int32) * (((31 : Int32) * n) + q0)))]))
  refine OGo.st (fun _ kz => XS.aloadN X0.here hx rfl (hb hby d_prog_12_method_2_15) rfl rfl kz) ?_
  show OGo p.tables e below Φ (s₁.setTop (mkF m 16 #[.val (.int n), .val (.ref a), .val (.int (3 : Int32)), .val (.int (((31 : Int32) * n) + q0)), .val (.int (1 : Int32))] [(.ref a), (.int ((31 : Int32) * (((31 : Int32) * n) + q0)))]))
  refine OGo.st (fun _ kz => XS.iload X0.here hx rfl (hb hby d_prog_12_method_2_16) rfl kz) ?_
  show OGo p.tables e below Φ (s₁.setTop (mkF m 18 #[.val (.int n), .val (.ref a), .val (.int (3 : Int32)), .val (.int (((31 : Int32) * n) + q0)), .val (.int (1 : Int32))] [(.int (1 : Int32)), (.ref a), (.int ((31 : Int32) * (((31 : Int32) * n) + q0)))]))
  obtain ⟨cl2, Aq2, -, S2, M2, H2, -⟩ := id V_a
  have in2 : ¬ ((1 : Int32) < 0 ∨ cl2.slots.size ≤ (1 : Int32).toNatClampNeg) := inb_of S2 ⟨by decide, by decide⟩
  have at2 : cl2.slots[(1 : Int32).toNatClampNeg]? = some (.int q1) := H2.at in2 rfl
  refine OGo.st (fun _ kz => X0.iaload hx (by rw [e0]; exact Aq2.1) (State.isArrayOf_alike hZ.alike Aq2.2.1) Aq2.2.2 in2 at2 (g := (mkF m 18 #[.val (.int n), .val (.ref a), .val (.int (3 : Int32)), .val (.int (((31 : Int32) * n) + q0)), .val (.int (1 : Int32))] [(.int (1 : Int32)), (.ref a), (.int ((31 : Int32) * (((31 : Int32) * n) + q0)))])) rfl rfl (hb hby d_prog_12_method_2_18) _ kz) ?_
  show OGo p.tables e below Φ (s₁.setTop (mkF m 19 #[.val (.int n), .val (.ref a), .val (.int (3 : Int32)), .val (.int (((31 : Int32) * n) + q0)), .val (.int (1 : Int32))] [(.int q1), (.int ((31 : Int32) * (((31 : Int32) * n) + q0)))]))
  refine OGo.st (fun _ kz => XS.iadd X0.here hx rfl (hb hby d_prog_12_method_2_19) rfl kz) ?_
  show OGo p.tables e below Φ (s₁.setTop (mkF m 20 #[.val (.int n), .val (.ref a), .val (.int (3 : Int32)), .val (.int (((31 : Int32) * n) + q0)), .val (.int (1 : Int32))] [(.int (((31 : Int32) * (((31 : Int32) * n) + q0)) + q1))]))
  refine OGo.st (fun _ kz => XS.istoreN X0.here hx rfl (hb hby d_prog_12_method_2_20) rfl (l' := #[.val (.int n), .val (.ref a), .val (.int (3 : Int32)), .val (.int (((31 : Int32) * (((31 : Int32) * n) + q0)) + q1)), .val (.int (1 : Int32))]) rfl kz) ?_
  show OGo p.tables e below Φ (s₁.setTop (mkF m 21 #[.val (.int n), .val (.ref a), .val (.int (3 : Int32)), .val (.int (((31 : Int32) * (((31 : Int32) * n) + q0)) + q1)), .val (.int (1 : Int32))] []))
  refine OGo.st (fun _ kz => XS.iinc X0.here hx rfl (hb hby d_prog_12_method_2_21) rfl (l' := #[.val (.int n), .val (.ref a), .val (.int (3 : Int32)), .val (.int (((31 : Int32) * (((31 : Int32) * n) + q0)) + q1)), .val (.int ((1 : Int32) + (1 : Int32)))]) rfl kz) ?_
  show OGo p.tables e below Φ (s₁.setTop (mkF m 24 #[.val (.int n), .val (.ref a), .val (.int (3 : Int32)), .val (.int (((31 : Int32) * (((31 : Int32) * n) + q0)) + q1)), .val (.int (2 : Int32))] []))
  refine OGo.st (fun _ kz => XS.goto X0.here hx rfl (pc0 := 24) (pc' := 5) rfl (hb hby d_prog_12_method_2_24) (by decide) (by decide) kz) ?_
  show OGo p.tables e below Φ (s₁.setTop (mkF m 5 #[.val (.int n), .val (.ref a), .val (.int (3 : Int32)), .val (.int (((31 : Int32) * (((31 : Int32) * n) + q0)) + q1)), .val (.int (2 : Int32))] []))
  refine OGo.st (fun _ kz => XS.iload X0.here hx rfl (hb hby d_prog_12_method_2_5) rfl kz) ?_
  show OGo p.tables e below Φ (s₁.setTop (mkF m 7 #[.val (.int n), .val (.ref a), .val (.int (3 : Int32)), .val (.int (((31 : Int32) * (((31 : Int32) * n) + q0)) + q1)), .val (.int (2 : Int32))] [(.int (2 : Int32))]))
  refine OGo.st (fun _ kz => XS.iloadN X0.here hx rfl (hb hby d_prog_12_method_2_7) rfl kz) ?_
  show OGo p.tables e below Φ (s₁.setTop (mkF m 8 #[.val (.int n), .val (.ref a), .val (.int (3 : Int32)), .val (.int (((31 : Int32) * (((31 : Int32) * n) + q0)) + q1)), .val (.int (2 : Int32))] [(.int (3 : Int32)), (.int (2 : Int32))]))
  refine OGo.st (fun _ kz => XS.icmpNo X0.here hx rfl (hb hby d_prog_12_method_2_8) rfl (XT.ii_ge_f (by decide)) kz) ?_
  show OGo p.tables e below Φ (s₁.setTop (mkF m 11 #[.val (.int n), .val (.ref a), .val (.int (3 : Int32)), .val (.int (((31 : Int32) * (((31 : Int32) * n) + q0)) + q1)), .val (.int (2 : Int32))] []))
  refine OGo.st (fun _ kz => XS.bipush X0.here hx rfl (hb hby d_prog_12_method_2_11) kz) ?_
  show OGo p.tables e below Φ (s₁.setTop (mkF m 13 #[.val (.int n), .val (.ref a), .val (.int (3 : Int32)), .val (.int (((31 : Int32) * (((31 : Int32) * n) + q0)) + q1)), .val (.int (2 : Int32))] [(.int (31 : Int32))]))
  refine OGo.st (fun _ kz => XS.iloadN X0.here hx rfl (hb hby d_prog_12_method_2_13) rfl kz) ?_
  show OGo p.tables e below Φ (s₁.setTop (mkF m 14 #[.val (.int n), .val (.ref a), .val (.int (3 : Int32)), .val (.int (((31 : Int32) * (((31 : Int32) * n) + q0)) + q1)), .val (.int (2 : Int32))] [(.int (((31 : Int32) * (((31 : Int32) * n) + q0)) + q1)), (.int (31 : Int32))]))
  refine OGo.st (fun _ kz => XS.imul X0.here hx rfl (hb hby d_prog_12_method_2_14) rfl kz) ?_
  show OGo p.tables e below Φ (s₁.setTop (mkF m 15 #[.val (.int n), .val (.ref a), .val (.int (3 : Int32)), .val (.int (((31 : Int32) * (((31 : Int32) * n) + q0)) + q1)), .val (.int (2 : Int32))] [(.int ((31 : Int32) * (((31 : Int32) * (((31 : Int32) * n) + q0)) + q1)))]))
  refine OGo.st (fun _ kz => XS.aloadN X0.here hx rfl (hb hby d_prog_12_method_2_15) rfl rfl kz) ?_
  show OGo p.tables e below Φ (s₁.setTop (mkF m 16 #[.val (.int n), .val (.ref a), .val (.int (3 : Int32)), .val (.int (((31 : Int32) * (((31 : Int32) * n) + q0)) + q1)), .val (.int (2 : Int32))] [(.ref a), (.int ((31 : Int32) * (((31 : Int32) * (((31 : Int32) * n) + q0)) + q1)))]))
  refine OGo.st (fun _ kz => XS.iload X0.here hx rfl (hb hby d_prog_12_method_2_16) rfl kz) ?_
  show OGo p.tables e below Φ (s₁.setTop (mkF m 18 #[.val (.int n), .val (.ref a), .val (.int (3 : Int32)), .val (.int (((31 : Int32) * (((31 : Int32) * n) + q0)) + q1)), .val (.int (2 : Int32))] [(.int (2 : Int32)), (.ref a), (.int ((31 : Int32) * (((31 : Int32) * (((31 : Int32) * n) + q0)) + q1)))]))
  obtain ⟨cl3, Aq3, -, S3, M3, H3, -⟩ := id V_a
  have in3 : ¬ ((2 : Int32) < 0 ∨ cl3.slots.size ≤ (2 : Int32).toNatClampNeg) := inb_of S3 ⟨by decide, by decide⟩
  have at3 : cl3.slots[(2 : Int32).toNatClampNeg]? = some (.int q2) := H3.at in3 rfl
  refine OGo.st (fun _ kz => X0.iaload hx (by rw [e0]; exact Aq3.1) (State.isArrayOf_alike hZ.alike Aq3.2.1) Aq3.2.2 in3 at3 (g := (mkF m 18 #[.val (.int n), .val (.ref a), .val (.int (3 : Int32)), .val (.int (((31 : Int32) * (((31 : Int32) * n) + q0)) + q1)), .val (.int (2 : Int32))] [(.int (2 : Int32)), (.ref a), (.int ((31 : Int32) * (((31 : Int32) * (((31 : Int32) * n) + q0)) + q1)))])) rfl rfl (hb hby d_prog_12_method_2_18) _ kz) ?_
  show OGo p.tables e below Φ (s₁.setTop (mkF m 19 #[.val (.int n), .val (.ref a), .val (.int (3 : Int32)), .val (.int (((31 : Int32) * (((31 : Int32) * n) + q0)) + q1)), .val (.int (2 : Int32))] [(.int q2), (.int ((31 : Int32) * (((31 : Int32) * (((31 : Int32) * n) + q0)) + q1)))]))
  refine OGo.st (fun _ kz => XS.iadd X0.here hx rfl (hb hby d_prog_12_method_2_19) rfl kz) ?_
  show OGo p.tables e below Φ (s₁.setTop (mkF m 20 #[.val (.int n), .val (.ref a), .val (.int (3 : Int32)), .val (.int (((31 : Int32) * (((31 : Int32) * n) + q0)) + q1)), .val (.int (2 : Int32))] [(.int (((31 : Int32) * (((31 : Int32) * (((31 : Int32) * n) + q0)) + q1)) + q2))]))
  refine OGo.st (fun _ kz => XS.istoreN X0.here hx rfl (hb hby d_prog_12_method_2_20) rfl (l' := #[.val (.int n), .val (.ref a), .val (.int (3 : Int32)), .val (.int (((31 : Int32) * (((31 : Int32) * (((31 : Int32) * n) + q0)) + q1)) + q2)), .val (.int (2 : Int32))]) rfl kz) ?_
  show OGo p.tables e below Φ (s₁.setTop (mkF m 21 #[.val (.int n), .val (.ref a), .val (.int (3 : Int32)), .val (.int (((31 : Int32) * (((31 : Int32) * (((31 : Int32) * n) + q0)) + q1)) + q2)), .val (.int (2 : Int32))] []))
  refine OGo.st (fun _ kz => XS.iinc X0.here hx rfl (hb hby d_prog_12_method_2_21) rfl (l' := #[.val (.int n), .val (.ref a), .val (.int (3 : Int32)), .val (.int (((31 : Int32) * (((31 : Int32) * (((31 : Int32) * n) + q0)) + q1)) + q2)), .val (.int ((2 : Int32) + (1 : Int32)))]) rfl kz) ?_
  show OGo p.tables e below Φ (s₁.setTop (mkF m 24 #[.val (.int n), .val (.ref a), .val (.int (3 : Int32)), .val (.int (((31 : Int32) * (((31 : Int32) * (((31 : Int32) * n) + q0)) + q1)) + q2)), .val (.int (3 : Int32))] []))
  refine OGo.st (fun _ kz => XS.goto X0.here hx rfl (pc0 := 24) (pc' := 5) rfl (hb hby d_prog_12_method_2_24) (by decide) (by decide) kz) ?_
  show OGo p.tables e below Φ (s₁.setTop (mkF m 5 #[.val (.int n), .val (.ref a), .val (.int (3 : Int32)), .val (.int (((31 : Int32) * (((31 : Int32) * (((31 : Int32) * n) + q0)) + q1)) + q2)), .val (.int (3 : Int32))] []))
  refine OGo.st (fun _ kz => XS.iload X0.here hx rfl (hb hby d_prog_12_method_2_5) rfl kz) ?_
  show OGo p.tables e below Φ (s₁.setTop (mkF m 7 #[.val (.int n), .val (.ref a), .val (.int (3 : Int32)), .val (.int (((31 : Int32) * (((31 : Int32) * (((31 : Int32) * n) + q0)) + q1)) + q2)), .val (.int (3 : Int32))] [(.int (3 : Int32))]))
  refine OGo.st (fun _ kz => XS.iloadN X0.here hx rfl (hb hby d_prog_12_method_2_7) rfl kz) ?_
  show OGo p.tables e below Φ (s₁.setTop (mkF m 8 #[.val (.int n), .val (.ref a), .val (.int (3 : Int32)), .val (.int (((31 : Int32) * (((31 : Int32) * (((31 : Int32) * n) + q0)) + q1)) + q2)), .val (.int (3 : Int32))] [(.int (3 : Int32)), (.int (3 : Int32))]))
  refine OGo.st (fun _ kz => XS.icmpYes X0.here hx rfl (pc0 := 8) (pc' := 27) rfl (hb hby d_prog_12_method_2_8) rfl (XT.ii_ge_t (by decide)) (by decide) (by decide) kz) ?_
  show OGo p.tables e below Φ (s₁.setTop (mkF m 27 #[.val (.int n), .val (.ref a), .val (.int (3 : Int32)), .val (.int (((31 : Int32) * (((31 : Int32) * (((31 : Int32) * n) + q0)) + q1)) + q2)), .val (.int (3 : Int32))] []))
  refine OGo.st (fun _ kz => XS.iloadN X0.here hx rfl (hb hby d_prog_12_method_2_27) rfl kz) ?_
  show OGo p.tables e below Φ (s₁.setTop (mkF m 28 #[.val (.int n), .val (.ref a), .val (.int (3 : Int32)), .val (.int (((31 : Int32) * (((31 : Int32) * (((31 : Int32) * n) + q0)) + q1)) + q2)), .val (.int (3 : Int32))] [(.int (((31 : Int32) * (((31 : Int32) * (((31 : Int32) * n) + q0)) + q1)) + q2))]))
  refine OGo.fin X0 hlk (v := (some (.int (((31 : Int32) * (((31 : Int32) * (((31 : Int32) * n) + q0)) + q1)) + q2)))) (fun h => by rw [hret] at h; cases h) (by decide) (by decide) (fun fs hr => X0.ireturnOut hx hret rfl (by simp) (hb hby d_prog_12_method_2_28) hr) fun U eU hF => hΦ _ _ _ ?_ hF
  rw [eU, e0]
  show Q_rm2_3 Z n a ca q0 q1 q2 q3 h0 n0 _ _ _
  exact ⟨rfl, N0, rfl⟩

theorem ef_rm2_4 (m : MethodId) (x0 : Int32) (x1 : Addr) (x2 : Int32) : entryFrame m #[(.int x0), (.ref x1), (.int x2)] 5 = mkF m 0 #[.val (.int x0), .val (.ref x1), .val (.int x2), .unset, .unset] [] := by first | (simp [entryFrame, mkF, argsToLocals, Value.category]; done) | rfl
def Q_rm2_4 (Z : State) (n : Int32) (a : Addr) (ca : ClassId) (q0 : Int32) (q1 : Int32) (q2 : Int32) (q3 : Int32) (h0 : Heap) (n0 : Nat) (v : Option Value) (h : Heap) (L : List Loc) : Prop := v = some (.int (((31 : Int32) * (((31 : Int32) * (((31 : Int32) * (((31 : Int32) * n) + q0)) + q1)) + q2)) + q3)) ∧ Fr n0 L ∧ h = h0
set_option maxRecDepth 65536 in
set_option maxHeartbeats 40000000 in
theorem rm2_4 (l : Launch) (Z : State) (a0 : Array Value) (hw : ∀ d ∈ tables_1, d.before a0 Z = true) (ws : List Jvm.Cond) (n : Int32) (a : Addr) (ca : ClassId) (q0 : Int32) (q1 : Int32) (q2 : Int32) (q3 : Int32) (h0 : Heap) (n0 : Nat) (Z0 : n0 ≤ h0.size) (V_a : Arv Z h0 a ca .int (4 : Int32) [(.int q0), (.int q1), (.int q2), (.int q3)] (.int (0 : Int32))) :
    OCon l Z (⟨"com/example/tersewire/tersewire/RecordType", "hash", "(I[II)I"⟩ : MethodName) prog_12_method_2_code 5 (some .int) ws ({ frames := 0, cells := 0, slots := 0, locals := 0 } : Room) #[(.int n), (.ref a), (.int (4 : Int32))] h0 (Q_rm2_4 Z n a ca q0 q1 q2 q3 h0 n0) := by
  refine OCon.of (plainFor_of_name pn1) ?_
  intro p e s m below meth c s₁ Φ X0 hx hby hml hown hnm hret hlk hZ e0 hΦ
  have N0 := Fr.nil n0
  refine OGo.st (fun _ kz => castTop (ef_rm2_4 m n a (4 : Int32)) kz) ?_
  show OGo p.tables e below Φ (s₁.setTop (mkF m 0 #[.val (.int n), .val (.ref a), .val (.int (4 : Int32)), .unset, .unset] []))
  refine OGo.st (fun _ kz => XS.iloadN X0.here hx rfl (hb hby d_prog_12_method_2_0) rfl kz) ?_
  show OGo p.tables e below Φ (s₁.setTop (mkF m 1 #[.val (.int n), .val (.ref a), .val (.int (4 : Int32)), .unset, .unset] [(.int n)]))
  refine OGo.st (fun _ kz => XS.istoreN X0.here hx rfl (hb hby d_prog_12_method_2_1) rfl (l' := #[.val (.int n), .val (.ref a), .val (.int (4 : Int32)), .val (.int n), .unset]) rfl kz) ?_
  show OGo p.tables e below Φ (s₁.setTop (mkF m 2 #[.val (.int n), .val (.ref a), .val (.int (4 : Int32)), .val (.int n), .unset] []))
  refine OGo.st (fun _ kz => XS.iconst X0.here hx rfl (hb hby d_prog_12_method_2_2) kz) ?_
  show OGo p.tables e below Φ (s₁.setTop (mkF m 3 #[.val (.int n), .val (.ref a), .val (.int (4 : Int32)), .val (.int n), .unset] [(.int (0 : Int32))]))
  refine OGo.st (fun _ kz => XS.istore X0.here hx rfl (hb hby d_prog_12_method_2_3) rfl (l' := #[.val (.int n), .val (.ref a), .val (.int (4 : Int32)), .val (.int n), .val (.int (0 : Int32))]) rfl kz) ?_
  show OGo p.tables e below Φ (s₁.setTop (mkF m 5 #[.val (.int n), .val (.ref a), .val (.int (4 : Int32)), .val (.int n), .val (.int (0 : Int32))] []))
  refine OGo.st (fun _ kz => XS.iload X0.here hx rfl (hb hby d_prog_12_method_2_5) rfl kz) ?_
  show OGo p.tables e below Φ (s₁.setTop (mkF m 7 #[.val (.int n), .val (.ref a), .val (.int (4 : Int32)), .val (.int n), .val (.int (0 : Int32))] [(.int (0 : Int32))]))
  refine OGo.st (fun _ kz => XS.iloadN X0.here hx rfl (hb hby d_prog_12_method_2_7) rfl kz) ?_
  show OGo p.tables e below Φ (s₁.setTop (mkF m 8 #[.val (.int n), .val (.ref a), .val (.int (4 : Int32)), .val (.int n), .val (.int (0 : Int32))] [(.int (4 : Int32)), (.int (0 : Int32))]))
  refine OGo.st (fun _ kz => XS.icmpNo X0.here hx rfl (hb hby d_prog_12_method_2_8) rfl (XT.ii_ge_f (by decide)) kz) ?_
  show OGo p.tables e below Φ (s₁.setTop (mkF m 11 #[.val (.int n), .val (.ref a), .val (.int (4 : Int32)), .val (.int n), .val (.int (0 : Int32))] []))
  refine OGo.st (fun _ kz => XS.bipush X0.here hx rfl (hb hby d_prog_12_method_2_11) kz) ?_
  show OGo p.tables e below Φ (s₁.setTop (mkF m 13 #[.val (.int n), .val (.ref a), .val (.int (4 : Int32)), .val (.int n), .val (.int (0 : Int32))] [(.int (31 : Int32))]))
  refine OGo.st (fun _ kz => XS.iloadN X0.here hx rfl (hb hby d_prog_12_method_2_13) rfl kz) ?_
  show OGo p.tables e below Φ (s₁.setTop (mkF m 14 #[.val (.int n), .val (.ref a), .val (.int (4 : Int32)), .val (.int n), .val (.int (0 : Int32))] [(.int n), (.int (31 : Int32))]))
  refine OGo.st (fun _ kz => XS.imul X0.here hx rfl (hb hby d_prog_12_method_2_14) rfl kz) ?_
  show OGo p.tables e below Φ (s₁.setTop (mkF m 15 #[.val (.int n), .val (.ref a), .val (.int (4 : Int32)), .val (.int n), .val (.int (0 : Int32))] [(.int ((31 : Int32) * n))]))
  refine OGo.st (fun _ kz => XS.aloadN X0.here hx rfl (hb hby d_prog_12_method_2_15) rfl rfl kz) ?_
  show OGo p.tables e below Φ (s₁.setTop (mkF m 16 #[.val (.int n), .val (.ref a), .val (.int (4 : Int32)), .val (.int n), .val (.int (0 : Int32))] [(.ref a), (.int ((31 : Int32) * n))]))
  refine OGo.st (fun _ kz => XS.iload X0.here hx rfl (hb hby d_prog_12_method_2_16) rfl kz) ?_
  show OGo p.tables e below Φ (s₁.setTop (mkF m 18 #[.val (.int n), .val (.ref a), .val (.int (4 : Int32)), .val (.int n), .val (.int (0 : Int32))] [(.int (0 : Int32)), (.ref a), (.int ((31 : Int32) * n))]))
  obtain ⟨cl1, Aq1, -, S1, M1, H1, -⟩ := id V_a
  have in1 : ¬ ((0 : Int32) < 0 ∨ cl1.slots.size ≤ (0 : Int32).toNatClampNeg) := inb_of S1 ⟨by decide, by decide⟩
  have at1 : cl1.slots[(0 : Int32).toNatClampNeg]? = some (.int q0) := H1.at in1 rfl
  refine OGo.st (fun _ kz => X0.iaload hx (by rw [e0]; exact Aq1.1) (State.isArrayOf_alike hZ.alike Aq1.2.1) Aq1.2.2 in1 at1 (g := (mkF m 18 #[.val (.int n), .val (.ref a), .val (.int (4 : Int32)), .val (.int n), .val (.int (0 : Int32))] [(.int (0 : Int32)), (.ref a), (.int ((31 : Int32) * n))])) rfl rfl (hb hby d_prog_12_method_2_18) _ kz) ?_
  show OGo p.tables e below Φ (s₁.setTop (mkF m 19 #[.val (.int n), .val (.ref a), .val (.int (4 : Int32)), .val (.int n), .val (.int (0 : Int32))] [(.int q0), (.int ((31 : Int32) * n))]))
  refine OGo.st (fun _ kz => XS.iadd X0.here hx rfl (hb hby d_prog_12_method_2_19) rfl kz) ?_
  show OGo p.tables e below Φ (s₁.setTop (mkF m 20 #[.val (.int n), .val (.ref a), .val (.int (4 : Int32)), .val (.int n), .val (.int (0 : Int32))] [(.int (((31 : Int32) * n) + q0))]))
  refine OGo.st (fun _ kz => XS.istoreN X0.here hx rfl (hb hby d_prog_12_method_2_20) rfl (l' := #[.val (.int n), .val (.ref a), .val (.int (4 : Int32)), .val (.int (((31 : Int32) * n) + q0)), .val (.int (0 : Int32))]) rfl kz) ?_
  show OGo p.tables e below Φ (s₁.setTop (mkF m 21 #[.val (.int n), .val (.ref a), .val (.int (4 : Int32)), .val (.int (((31 : Int32) * n) + q0)), .val (.int (0 : Int32))] []))
  refine OGo.st (fun _ kz => XS.iinc X0.here hx rfl (hb hby d_prog_12_method_2_21) rfl (l' := #[.val (.int n), .val (.ref a), .val (.int (4 : Int32)), .val (.int (((31 : Int32) * n) + q0)), .val (.int ((0 : Int32) + (1 : Int32)))]) rfl kz) ?_
  show OGo p.tables e below Φ (s₁.setTop (mkF m 24 #[.val (.int n), .val (.ref a), .val (.int (4 : Int32)), .val (.int (((31 : Int32) * n) + q0)), .val (.int (1 : Int32))] []))
  refine OGo.st (fun _ kz => XS.goto X0.here hx rfl (pc0 := 24) (pc' := 5) rfl (hb hby d_prog_12_method_2_24) (by decide) (by decide) kz) ?_
  show OGo p.tables e below Φ (s₁.setTop (mkF m 5 #[.val (.int n), .val (.ref a), .val (.int (4 : Int32)), .val (.int (((31 : Int32) * n) + q0)), .val (.int (1 : Int32))] []))
  refine OGo.st (fun _ kz => XS.iload X0.here hx rfl (hb hby d_prog_12_method_2_5) rfl kz) ?_
  show OGo p.tables e below Φ (s₁.setTop (mkF m 7 #[.val (.int n), .val (.ref a), .val (.int (4 : Int32)), .val (.int (((31 : Int32) * n) + q0)), .val (.int (1 : Int32))] [(.int (1 : Int32))]))
  refine OGo.st (fun _ kz => XS.iloadN X0.here hx rfl (hb hby d_prog_12_method_2_7) rfl kz) ?_
  show OGo p.tables e below Φ (s₁.setTop (mkF m 8 #[.val (.int n), .val (.ref a), .val (.int (4 : Int32)), .val (.int (((31 : Int32) * n) + q0)), .val (.int (1 : Int32))] [(.int (4 : Int32)), (.int (1 : Int32))]))
  refine OGo.st (fun _ kz => XS.icmpNo X0.here hx rfl (hb hby d_prog_12_method_2_8) rfl (XT.ii_ge_f (by decide)) kz) ?_
  show OGo p.tables e below Φ (s₁.setTop (mkF m 11 #[.val (.int n), .val (.ref a), .val (.int (4 : Int32)), .val (.int (((31 : Int32) * n) + q0)), .val (.int (1 : Int32))] []))
  refine OGo.st (fun _ kz => XS.bipush X0.here hx rfl (hb hby d_prog_12_method_2_11) kz) ?_
  show OGo p.tables e below Φ (s₁.setTop (mkF m 13 #[.val (.int n), .val (.ref a), .val (.int (4 : Int32)), .val (.int (((31 : Int32) * n) + q0)), .val (.int (1 : Int32))] [(.int (31 : Int32))]))
  refine OGo.st (fun _ kz => XS.iloadN X0.here hx rfl (hb hby d_prog_12_method_2_13) rfl kz) ?_
  show OGo p.tables e below Φ (s₁.setTop (mkF m 14 #[.val (.int n), .val (.ref a), .val (.int (4 : Int32)), .val (.int (((31 : Int32) * n) + q0)), .val (.int (1 : Int32))] [(.int (((31 : Int32) * n) + q0)), (.int (31 : Int32))]))
  refine OGo.st (fun _ kz => XS.imul X0.here hx rfl (hb hby d_prog_12_method_2_14) rfl kz) ?_
  show OGo p.tables e below Φ (s₁.setTop (mkF m 15 #[.val (.int n), .val (.ref a), .val (.int (4 : Int32)), .val (.int (((31 : Int32) * n) + q0)), .val (.int (1 : Int32))] [(.int ((31 : Int32) * (((31 : Int32) * n) + q0)))]))
  refine OGo.st (fun _ kz => XS.aloadN X0.here hx rfl (hb hby d_prog_12_method_2_15) rfl rfl kz) ?_
  show OGo p.tables e below Φ (s₁.setTop (mkF m 16 #[.val (.int n), .val (.ref a), .val (.int (4 : Int32)), .val (.int (((31 : Int32) * n) + q0)), .val (.int (1 : Int32))] [(.ref a), (.int ((31 : Int32) * (((31 : Int32) * n) + q0)))]))
  refine OGo.st (fun _ kz => XS.iload X0.here hx rfl (hb hby d_prog_12_method_2_16) rfl kz) ?_
  show OGo p.tables e below Φ (s₁.setTop (mkF m 18 #[.val (.int n), .val (.ref a), .val (.int (4 : Int32)), .val (.int (((31 : Int32) * n) + q0)), .val (.int (1 : Int32))] [(.int (1 : Int32)), (.ref a), (.int ((31 : Int32) * (((31 : Int32) * n) + q0)))]))
  obtain ⟨cl2, Aq2, -, S2, M2, H2, -⟩ := id V_a
  have in2 : ¬ ((1 : Int32) < 0 ∨ cl2.slots.size ≤ (1 : Int32).toNatClampNeg) := inb_of S2 ⟨by decide, by decide⟩
  have at2 : cl2.slots[(1 : Int32).toNatClampNeg]? = some (.int q1) := H2.at in2 rfl
  refine OGo.st (fun _ kz => X0.iaload hx (by rw [e0]; exact Aq2.1) (State.isArrayOf_alike hZ.alike Aq2.2.1) Aq2.2.2 in2 at2 (g := (mkF m 18 #[.val (.int n), .val (.ref a), .val (.int (4 : Int32)), .val (.int (((31 : Int32) * n) + q0)), .val (.int (1 : Int32))] [(.int (1 : Int32)), (.ref a), (.int ((31 : Int32) * (((31 : Int32) * n) + q0)))])) rfl rfl (hb hby d_prog_12_method_2_18) _ kz) ?_
  show OGo p.tables e below Φ (s₁.setTop (mkF m 19 #[.val (.int n), .val (.ref a), .val (.int (4 : Int32)), .val (.int (((31 : Int32) * n) + q0)), .val (.int (1 : Int32))] [(.int q1), (.int ((31 : Int32) * (((31 : Int32) * n) + q0)))]))
  refine OGo.st (fun _ kz => XS.iadd X0.here hx rfl (hb hby d_prog_12_method_2_19) rfl kz) ?_
  show OGo p.tables e below Φ (s₁.setTop (mkF m 20 #[.val (.int n), .val (.ref a), .val (.int (4 : Int32)), .val (.int (((31 : Int32) * n) + q0)), .val (.int (1 : Int32))] [(.int (((31 : Int32) * (((31 : Int32) * n) + q0)) + q1))]))
  refine OGo.st (fun _ kz => XS.istoreN X0.here hx rfl (hb hby d_prog_12_method_2_20) rfl (l' := #[.val (.int n), .val (.ref a), .val (.int (4 : Int32)), .val (.int (((31 : Int32) * (((31 : Int32) * n) + q0)) + q1)), .val (.int (1 : Int32))]) rfl kz) ?_
  show OGo p.tables e below Φ (s₁.setTop (mkF m 21 #[.val (.int n), .val (.ref a), .val (.int (4 : Int32)), .val (.int (((31 : Int32) * (((31 : Int32) * n) + q0)) + q1)), .val (.int (1 : Int32))] []))
  refine OGo.st (fun _ kz => XS.iinc X0.here hx rfl (hb hby d_prog_12_method_2_21) rfl (l' := #[.val (.int n), .val (.ref a), .val (.int (4 : Int32)), .val (.int (((31 : Int32) * (((31 : Int32) * n) + q0)) + q1)), .val (.int ((1 : Int32) + (1 : Int32)))]) rfl kz) ?_
  show OGo p.tables e below Φ (s₁.setTop (mkF m 24 #[.val (.int n), .val (.ref a), .val (.int (4 : Int32)), .val (.int (((31 : Int32) * (((31 : Int32) * n) + q0)) + q1)), .val (.int (2 : Int32))] []))
  refine OGo.st (fun _ kz => XS.goto X0.here hx rfl (pc0 := 24) (pc' := 5) rfl (hb hby d_prog_12_method_2_24) (by decide) (by decide) kz) ?_
  show OGo p.tables e below Φ (s₁.setTop (mkF m 5 #[.val (.int n), .val (.ref a), .val (.int (4 : Int32)), .val (.int (((31 : Int32) * (((31 : Int32) * n) + q0)) + q1)), .val (.int (2 : Int32))] []))
  refine OGo.st (fun _ kz => XS.iload X0.here hx rfl (hb hby d_prog_12_method_2_5) rfl kz) ?_
  show OGo p.tables e below Φ (s₁.setTop (mkF m 7 #[.val (.int n), .val (.ref a), .val (.int (4 : Int32)), .val (.int (((31 : Int32) * (((31 : Int32) * n) + q0)) + q1)), .val (.int (2 : Int32))] [(.int (2 : Int32))]))
  refine OGo.st (fun _ kz => XS.iloadN X0.here hx rfl (hb hby d_prog_12_method_2_7) rfl kz) ?_
  show OGo p.tables e below Φ (s₁.setTop (mkF m 8 #[.val (.int n), .val (.ref a), .val (.int (4 : Int32)), .val (.int (((31 : Int32) * (((31 : Int32) * n) + q0)) + q1)), .val (.int (2 : Int32))] [(.int (4 : Int32)), (.int (2 : Int32))]))
  refine OGo.st (fun _ kz => XS.icmpNo X0.here hx rfl (hb hby d_prog_12_method_2_8) rfl (XT.ii_ge_f (by decide)) kz) ?_
  show OGo p.tables e below Φ (s₁.setTop (mkF m 11 #[.val (.int n), .val (.ref a), .val (.int (4 : Int32)), .val (.int (((31 : Int32) * (((31 : Int32) * n) + q0)) + q1)), .val (.int (2 : Int32))] []))
  refine OGo.st (fun _ kz => XS.bipush X0.here hx rfl (hb hby d_prog_12_method_2_11) kz) ?_
  show OGo p.tables e below Φ (s₁.setTop (mkF m 13 #[.val (.int n), .val (.ref a), .val (.int (4 : Int32)), .val (.int (((31 : Int32) * (((31 : Int32) * n) + q0)) + q1)), .val (.int (2 : Int32))] [(.int (31 : Int32))]))
  refine OGo.st (fun _ kz => XS.iloadN X0.here hx rfl (hb hby d_prog_12_method_2_13) rfl kz) ?_
  show OGo p.tables e below Φ (s₁.setTop (mkF m 14 #[.val (.int n), .val (.ref a), .val (.int (4 : Int32)), .val (.int (((31 : Int32) * (((31 : Int32) * n) + q0)) + q1)), .val (.int (2 : Int32))] [(.int (((31 : Int32) * (((31 : Int32) * n) + q0)) + q1)), (.int (31 : Int32))]))
  refine OGo.st (fun _ kz => XS.imul X0.here hx rfl (hb hby d_prog_12_method_2_14) rfl kz) ?_
  show OGo p.tables e below Φ (s₁.setTop (mkF m 15 #[.val (.int n), .val (.ref a), .val (.int (4 : Int32)), .val (.int (((31 : Int32) * (((31 : Int32) * n) + q0)) + q1)), .val (.int (2 : Int32))] [(.int ((31 : Int32) * (((31 : Int32) * (((31 : Int32) * n) + q0)) + q1)))]))
  refine OGo.st (fun _ kz => XS.aloadN X0.here hx rfl (hb hby d_prog_12_method_2_15) rfl rfl kz) ?_
  show OGo p.tables e below Φ (s₁.setTop (mkF m 16 #[.val (.int n), .val (.ref a), .val (.int (4 : Int32)), .val (.int (((31 : Int32) * (((31 : Int32) * n) + q0)) + q1)), .val (.int (2 : Int32))] [(.ref a), (.int ((31 : Int32) * (((31 : Int32) * (((31 : Int32) * n) + q0)) + q1)))]))
  refine OGo.st (fun _ kz => XS.iload X0.here hx rfl (hb hby d_prog_12_method_2_16) rfl kz) ?_
  show OGo p.tables e below Φ (s₁.setTop (mkF m 18 #[.val (.int n), .val (.ref a), .val (.int (4 : Int32)), .val (.int (((31 : Int32) * (((31 : Int32) * n) + q0)) + q1)), .val (.int (2 : Int32))] [(.int (2 : Int32)), (.ref a), (.int ((31 : Int32) * (((31 : Int32) * (((31 : Int32) * n) + q0)) + q1)))]))
  obtain ⟨cl3, Aq3, -, S3, M3, H3, -⟩ := id V_a
  have in3 : ¬ ((2 : Int32) < 0 ∨ cl3.slots.size ≤ (2 : Int32).toNatClampNeg) := inb_of S3 ⟨by decide, by decide⟩
  have at3 : cl3.slots[(2 : Int32).toNatClampNeg]? = some (.int q2) := H3.at in3 rfl
  refine OGo.st (fun _ kz => X0.iaload hx (by rw [e0]; exact Aq3.1) (State.isArrayOf_alike hZ.alike Aq3.2.1) Aq3.2.2 in3 at3 (g := (mkF m 18 #[.val (.int n), .val (.ref a), .val (.int (4 : Int32)), .val (.int (((31 : Int32) * (((31 : Int32) * n) + q0)) + q1)), .val (.int (2 : Int32))] [(.int (2 : Int32)), (.ref a), (.int ((31 : Int32) * (((31 : Int32) * (((31 : Int32) * n) + q0)) + q1)))])) rfl rfl (hb hby d_prog_12_method_2_18) _ kz) ?_
  show OGo p.tables e below Φ (s₁.setTop (mkF m 19 #[.val (.int n), .val (.ref a), .val (.int (4 : Int32)), .val (.int (((31 : Int32) * (((31 : Int32) * n) + q0)) + q1)), .val (.int (2 : Int32))] [(.int q2), (.int ((31 : Int32) * (((31 : Int32) * (((31 : Int32) * n) + q0)) + q1)))]))
  refine OGo.st (fun _ kz => XS.iadd X0.here hx rfl (hb hby d_prog_12_method_2_19) rfl kz) ?_
  show OGo p.tables e below Φ (s₁.setTop (mkF m 20 #[.val (.int n), .val (.ref a), .val (.int (4 : Int32)), .val (.int (((31 : Int32) * (((31 : Int32) * n) + q0)) + q1)), .val (.int (2 : Int32))] [(.int (((31 : Int32) * (((31 : Int32) * (((31 : Int32) * n) + q0)) + q1)) + q2))]))
  refine OGo.st (fun _ kz => XS.istoreN X0.here hx rfl (hb hby d_prog_12_method_2_20) rfl (l' := #[.val (.int n), .val (.ref a), .val (.int (4 : Int32)), .val (.int (((31 : Int32) * (((31 : Int32) * (((31 : Int32) * n) + q0)) + q1)) + q2)), .val (.int (2 : Int32))]) rfl kz) ?_
  show OGo p.tables e below Φ (s₁.setTop (mkF m 21 #[.val (.int n), .val (.ref a), .val (.int (4 : Int32)), .val (.int (((31 : Int32) * (((31 : Int32) * (((31 : Int32) * n) + q0)) + q1)) + q2)), .val (.int (2 : Int32))] []))
  refine OGo.st (fun _ kz => XS.iinc X0.here hx rfl (hb hby d_prog_12_method_2_21) rfl (l' := #[.val (.int n), .val (.ref a), .val (.int (4 : Int32)), .val (.int (((31 : Int32) * (((31 : Int32) * (((31 : Int32) * n) + q0)) + q1)) + q2)), .val (.int ((2 : Int32) + (1 : Int32)))]) rfl kz) ?_
  show OGo p.tables e below Φ (s₁.setTop (mkF m 24 #[.val (.int n), .val (.ref a), .val (.int (4 : Int32)), .val (.int (((31 : Int32) * (((31 : Int32) * (((31 : Int32) * n) + q0)) + q1)) + q2)), .val (.int (3 : Int32))] []))
  refine OGo.st (fun _ kz => XS.goto X0.here hx rfl (pc0 := 24) (pc' := 5) rfl (hb hby d_prog_12_method_2_24) (by decide) (by decide) kz) ?_
  show OGo p.tables e below Φ (s₁.setTop (mkF m 5 #[.val (.int n), .val (.ref a), .val (.int (4 : Int32)), .val (.int (((31 : Int32) * (((31 : Int32) * (((31 : Int32) * n) + q0)) + q1)) + q2)), .val (.int (3 : Int32))] []))
  refine OGo.st (fun _ kz => XS.iload X0.here hx rfl (hb hby d_prog_12_method_2_5) rfl kz) ?_
  show OGo p.tables e below Φ (s₁.setTop (mkF m 7 #[.val (.int n), .val (.ref a), .val (.int (4 : Int32)), .val (.int (((31 : Int32) * (((31 : Int32) * (((31 : Int32) * n) + q0)) + q1)) + q2)), .val (.int (3 : Int32))] [(.int (3 : Int32))]))
  refine OGo.st (fun _ kz => XS.iloadN X0.here hx rfl (hb hby d_prog_12_method_2_7) rfl kz) ?_
  show OGo p.tables e below Φ (s₁.setTop (mkF m 8 #[.val (.int n), .val (.ref a), .val (.int (4 : Int32)), .val (.int (((31 : Int32) * (((31 : Int32) * (((31 : Int32) * n) + q0)) + q1)) + q2)), .val (.int (3 : Int32))] [(.int (4 : Int32)), (.int (3 : Int32))]))
  refine OGo.st (fun _ kz => XS.icmpNo X0.here hx rfl (hb hby d_prog_12_method_2_8) rfl (XT.ii_ge_f (by decide)) kz) ?_
  show OGo p.tables e below Φ (s₁.setTop (mkF m 11 #[.val (.int n), .val (.ref a), .val (.int (4 : Int32)), .val (.int (((31 : Int32) * (((31 : Int32) * (((31 : Int32) * n) + q0)) + q1)) + q2)), .val (.int (3 : Int32))] []))
  refine OGo.st (fun _ kz => XS.bipush X0.here hx rfl (hb hby d_prog_12_method_2_11) kz) ?_
  show OGo p.tables e below Φ (s₁.setTop (mkF m 13 #[.val (.int n), .val (.ref a), .val (.int (4 : Int32)), .val (.int (((31 : Int32) * (((31 : Int32) * (((31 : Int32) * n) + q0)) + q1)) + q2)), .val (.int (3 : Int32))] [(.int (31 : Int32))]))
  refine OGo.st (fun _ kz => XS.iloadN X0.here hx rfl (hb hby d_prog_12_method_2_13) rfl kz) ?_
  show OGo p.tables e below Φ (s₁.setTop (mkF m 14 #[.val (.int n), .val (.ref a), .val (.int (4 : Int32)), .val (.int (((31 : Int32) * (((31 : Int32) * (((31 : Int32) * n) + q0)) + q1)) + q2)), .val (.int (3 : Int32))] [(.int (((31 : Int32) * (((31 : Int32) * (((31 : Int32) * n) + q0)) + q1)) + q2)), (.int (31 : Int32))]))
  refine OGo.st (fun _ kz => XS.imul X0.here hx rfl (hb hby d_prog_12_method_2_14) rfl kz) ?_
  show OGo p.tables e below Φ (s₁.setTop (mkF m 15 #[.val (.int n), .val (.ref a), .val (.int (4 : Int32)), .val (.int (((31 : Int32) * (((31 : Int32) * (((31 : Int32) * n) + q0)) + q1)) + q2)), .val (.int (3 : Int32))] [(.int ((31 : Int32) * (((31 : Int32) * (((31 : Int32) * (((31 : Int32) * n) + q0)) + q1)) + q2)))]))
  refine OGo.st (fun _ kz => XS.aloadN X0.here hx rfl (hb hby d_prog_12_method_2_15) rfl rfl kz) ?_
  show OGo p.tables e below Φ (s₁.setTop (mkF m 16 #[.val (.int n), .val (.ref a), .val (.int (4 : Int32)), .val (.int (((31 : Int32) * (((31 : Int32) * (((31 : Int32) * n) + q0)) + q1)) + q2)), .val (.int (3 : Int32))] [(.ref a), (.int ((31 : Int32) * (((31 : Int32) * (((31 : Int32) * (((31 : Int32) * n) + q0)) + q1)) + q2)))]))
  refine OGo.st (fun _ kz => XS.iload X0.here hx rfl (hb hby d_prog_12_method_2_16) rfl kz) ?_
  show OGo p.tables e below Φ (s₁.setTop (mkF m 18 #[.val (.int n), .val (.ref a), .val (.int (4 : Int32)), .val (.int (((31 : Int32) * (((31 : Int32) * (((31 : Int32) * n) + q0)) + q1)) + q2)), .val (.int (3 : Int32))] [(.int (3 : Int32)), (.ref a), (.int ((31 : Int32) * (((31 : Int32) * (((31 : Int32) * (((31 : Int32) * n) + q0)) + q1)) + q2)))]))
  obtain ⟨cl4, Aq4, -, S4, M4, H4, -⟩ := id V_a
  have in4 : ¬ ((3 : Int32) < 0 ∨ cl4.slots.size ≤ (3 : Int32).toNatClampNeg) := inb_of S4 ⟨by decide, by decide⟩
  have at4 : cl4.slots[(3 : Int32).toNatClampNeg]? = some (.int q3) := H4.at in4 rfl
  refine OGo.st (fun _ kz => X0.iaload hx (by rw [e0]; exact Aq4.1) (State.isArrayOf_alike hZ.alike Aq4.2.1) Aq4.2.2 in4 at4 (g := (mkF m 18 #[.val (.int n), .val (.ref a), .val (.int (4 : Int32)), .val (.int (((31 : Int32) * (((31 : Int32) * (((31 : Int32) * n) + q0)) + q1)) + q2)), .val (.int (3 : Int32))] [(.int (3 : Int32)), (.ref a), (.int ((31 : Int32) * (((31 : Int32) * (((31 : Int32) * (((31 : Int32) * n) + q0)) + q1)) + q2)))])) rfl rfl (hb hby d_prog_12_method_2_18) _ kz) ?_
  show OGo p.tables e below Φ (s₁.setTop (mkF m 19 #[.val (.int n), .val (.ref a), .val (.int (4 : Int32)), .val (.int (((31 : Int32) * (((31 : Int32) * (((31 : Int32) * n) + q0)) + q1)) + q2)), .val (.int (3 : Int32))] [(.int q3), (.int ((31 : Int32) * (((31 : Int32) * (((31 : Int32) * (((31 : Int32) * n) + q0)) + q1)) + q2)))]))
  refine OGo.st (fun _ kz => XS.iadd X0.here hx rfl (hb hby d_prog_12_method_2_19) rfl kz) ?_
  show OGo p.tables e below Φ (s₁.setTop (mkF m 20 #[.val (.int n), .val (.ref a), .val (.int (4 : Int32)), .val (.int (((31 : Int32) * (((31 : Int32) * (((31 : Int32) * n) + q0)) + q1)) + q2)), .val (.int (3 : Int32))] [(.int (((31 : Int32) * (((31 : Int32) * (((31 : Int32) * (((31 : Int32) * n) + q0)) + q1)) + q2)) + q3))]))
  refine OGo.st (fun _ kz => XS.istoreN X0.here hx rfl (hb hby d_prog_12_method_2_20) rfl (l' := #[.val (.int n), .val (.ref a), .val (.int (4 : Int32)), .val (.int (((31 : Int32) * (((31 : Int32) * (((31 : Int32) * (((31 : Int32) * n) + q0)) + q1)) + q2)) + q3)), .val (.int (3 : Int32))]) rfl kz) ?_
  show OGo p.tables e below Φ (s₁.setTop (mkF m 21 #[.val (.int n), .val (.ref a), .val (.int (4 : Int32)), .val (.int (((31 : Int32) * (((31 : Int32) * (((31 : Int32) * (((31 : Int32) * n) + q0)) + q1)) + q2)) + q3)), .val (.int (3 : Int32))] []))
  refine OGo.st (fun _ kz => XS.iinc X0.here hx rfl (hb hby d_prog_12_method_2_21) rfl (l' := #[.val (.int n), .val (.ref a), .val (.int (4 : Int32)), .val (.int (((31 : Int32) * (((31 : Int32) * (((31 : Int32) * (((31 : Int32) * n) + q0)) + q1)) + q2)) + q3)), .val (.int ((3 : Int32) + (1 : Int32)))]) rfl kz) ?_
  show OGo p.tables e below Φ (s₁.setTop (mkF m 24 #[.val (.int n), .val (.ref a), .val (.int (4 : Int32)), .val (.int (((31 : Int32) * (((31 : Int32) * (((31 : Int32) * (((31 : Int32) * n) + q0)) + q1)) + q2)) + q3)), .val (.int (4 : Int32))] []))
  refine OGo.st (fun _ kz => XS.goto X0.here hx rfl (pc0 := 24) (pc' := 5) rfl (hb hby d_prog_12_method_2_24) (by decide) (by decide) kz) ?_
  show OGo p.tables e below Φ (s₁.setTop (mkF m 5 #[.val (.int n), .val (.ref a), .val (.int (4 : Int32)), .val (.int (((31 : Int32) * (((31 : Int32) * (((31 : Int32) * (((31 : Int32) * n) + q0)) + q1)) + q2)) + q3)), .val (.int (4 : Int32))] []))
  refine OGo.st (fun _ kz => XS.iload X0.here hx rfl (hb hby d_prog_12_method_2_5) rfl kz) ?_
  show OGo p.tables e below Φ (s₁.setTop (mkF m 7 #[.val (.int n), .val (.ref a), .val (.int (4 : Int32)), .val (.int (((31 : Int32) * (((31 : Int32) * (((31 : Int32) * (((31 : Int32) * n) + q0)) + q1)) + q2)) + q3)), .val (.int (4 : Int32))] [(.int (4 : Int32))]))
  refine OGo.st (fun _ kz => XS.iloadN X0.here hx rfl (hb hby d_prog_12_method_2_7) rfl kz) ?_
  show OGo p.tables e below Φ (s₁.setTop (mkF m 8 #[.val (.int n), .val (.ref a), .val (.int (4 : Int32)), .val (.int (((31 : Int32) * (((31 : Int32) * (((31 : Int32) * (((31 : Int32) * n) + q0)) + q1)) + q2)) + q3)), .val (.int (4 : Int32))] [(.int (4 : Int32)), (.int (4 : Int32))]))
  refine OGo.st (fun _ kz => XS.icmpYes X0.here hx rfl (pc0 := 8) (pc' := 27) rfl (hb hby d_prog_12_method_2_8) rfl (XT.ii_ge_t (by decide)) (by decide) (by decide) kz) ?_
  show OGo p.tables e below Φ (s₁.setTop (mkF m 27 #[.val (.int n), .val (.ref a), .val (.int (4 : Int32)), .val (.int (((31 : Int32) * (((31 : Int32) * (((31 : Int32) * (((31 : Int32) * n) + q0)) + q1)) + q2)) + q3)), .val (.int (4 : Int32))] []))
  refine OGo.st (fun _ kz => XS.iloadN X0.here hx rfl (hb hby d_prog_12_method_2_27) rfl kz) ?_
  show OGo p.tables e below Φ (s₁.setTop (mkF m 28 #[.val (.int n), .val (.ref a), .val (.int (4 : Int32)), .val (.int (((31 : Int32) * (((31 : Int32) * (((31 : Int32) * (((31 : Int32) * n) + q0)) + q1)) + q2)) + q3)), .val (.int (4 : Int32))] [(.int (((31 : Int32) * (((31 : Int32) * (((31 : Int32) * (((31 : Int32) * n) + q0)) + q1)) + q2)) + q3))]))
  refine OGo.fin X0 hlk (v := (some (.int (((31 : Int32) * (((31 : Int32) * (((31 : Int32) * (((31 : Int32) * n) + q0)) + q1)) + q2)) + q3)))) (fun h => by rw [hret] at h; cases h) (by decide) (by decide) (fun fs hr => X0.ireturnOut hx hret rfl (by simp) (hb hby d_prog_12_method_2_28) hr) fun U eU hF => hΦ _ _ _ ?_ hF
  rw [eU, e0]
  show Q_rm2_4 Z n a ca q0 q1 q2 q3 h0 n0 _ _ _
  exact ⟨rfl, N0, rfl⟩

theorem pd0 : parseMethodDescriptor "(I)I" = some ⟨[.int], some .int⟩ := by decide +kernel
theorem pd1 : parseMethodDescriptor "(I[II)I" = some ⟨[.int, (.array .int), .int], some .int⟩ := by decide +kernel
theorem ef_rm0 (m : MethodId) (x0 : Int32) (x1 : Int32) (x2 : Int32) (x3 : Int32) (x4 : Int32) (x5 : Int32) : entryFrame m #[(.int x0), (.int x1), (.int x2), (.int x3), (.int x4), (.int x5)] maxLocals = mkF m 0 #[.val (.int x0), .val (.int x1), .val (.int x2), .val (.int x3), .val (.int x4), .val (.int x5), .unset, .unset, .unset, .unset] [] := by first | (simp [entryFrame, mkF, argsToLocals, Value.category, maxLocals]; done) | rfl
def Q_rm0 (Z : State) (n : Int32) (a : Int32) (b : Int32) (d : Int32) (e_ : Int32) (c_ : Int32) (h0 : Heap) (n0 : Nat) (v : Option Value) (h : Heap) (L : List Loc) : Prop := v = some (.int (1 : Int32)) ∧ Fr n0 L
set_option maxRecDepth 65536 in
set_option maxHeartbeats 40000000 in
theorem rm0 (l : Launch) (Z : State) (a0 : Array Value) (hw : ∀ d ∈ tables_1, d.before a0 Z = true) (ws : List Jvm.Cond) (n : Int32) (a : Int32) (b : Int32) (d : Int32) (e_ : Int32) (c_ : Int32) (h0 : Heap) (n0 : Nat) (Z0 : n0 ≤ h0.size)  :
    OCon l Z x code maxLocals ret ws room_1 #[(.int n), (.int a), (.int b), (.int d), (.int e_), (.int c_)] h0 (Q_rm0 Z n a b d e_ c_ h0 n0) := by
  refine OCon.of (plainFor_of_name pn0) ?_
  intro p e s m below meth c s₁ Φ X0 hx hby hml hown hnm hret hlk hZ e0 hΦ
  have N0 := Fr.nil n0
  refine OGo.st (fun _ kz => castTop (ef_rm0 m n a b d e_ c_) kz) ?_
  show OGo p.tables e below Φ (s₁.setTop (mkF m 0 #[.val (.int n), .val (.int a), .val (.int b), .val (.int d), .val (.int e_), .val (.int c_), .unset, .unset, .unset, .unset] []))
  refine OGo.st (fun _ kz => XS.iload X0.here hx rfl (hb hby at_0) rfl kz) ?_
  show OGo p.tables e below Φ (s₁.setTop (mkF m 2 #[.val (.int n), .val (.int a), .val (.int b), .val (.int d), .val (.int e_), .val (.int c_), .unset, .unset, .unset, .unset] [(.int c_)]))
  refine OGo.st (fun _ kz => X0.ldcI hx hown (mvT hZ (ow0 hw)) rfl (hb hby at_2) kz) ?_
  show OGo p.tables e below Φ (s₁.setTop (mkF m 4 #[.val (.int n), .val (.int a), .val (.int b), .val (.int d), .val (.int e_), .val (.int c_), .unset, .unset, .unset, .unset] [(.int (2147483647 : Int32)), (.int c_)]))
  refine OGo.st (fun _ kz => XS.iand X0.here hx rfl (hb hby at_4) rfl kz) ?_
  show OGo p.tables e below Φ (s₁.setTop (mkF m 5 #[.val (.int n), .val (.int a), .val (.int b), .val (.int d), .val (.int e_), .val (.int c_), .unset, .unset, .unset, .unset] [(.int (c_ &&& (2147483647 : Int32)))]))
  refine OGo.st (fun _ kz => XS.iconst X0.here hx rfl (hb hby at_5) kz) ?_
  show OGo p.tables e below Φ (s₁.setTop (mkF m 6 #[.val (.int n), .val (.int a), .val (.int b), .val (.int d), .val (.int e_), .val (.int c_), .unset, .unset, .unset, .unset] [(.int (5 : Int32)), (.int (c_ &&& (2147483647 : Int32)))]))
  refine OGo.st (fun _ kz => iremM X0 hx rfl (hb hby at_6) rfl (by decide) kz) ?_
  show OGo p.tables e below Φ (s₁.setTop (mkF m 7 #[.val (.int n), .val (.int a), .val (.int b), .val (.int d), .val (.int e_), .val (.int c_), .unset, .unset, .unset, .unset] [(.int ((c_ &&& (2147483647 : Int32)) % (5 : Int32)))]))
  refine OGo.st (fun _ kz => XS.istore X0.here hx rfl (hb hby at_7) rfl (l' := #[.val (.int n), .val (.int a), .val (.int b), .val (.int d), .val (.int e_), .val (.int c_), .val (.int ((c_ &&& (2147483647 : Int32)) % (5 : Int32))), .unset, .unset, .unset]) rfl kz) ?_
  show OGo p.tables e below Φ (s₁.setTop (mkF m 9 #[.val (.int n), .val (.int a), .val (.int b), .val (.int d), .val (.int e_), .val (.int c_), .val (.int ((c_ &&& (2147483647 : Int32)) % (5 : Int32))), .unset, .unset, .unset] []))
  refine OGo.st (fun _ kz => XS.iconst X0.here hx rfl (hb hby at_9) kz) ?_
  show OGo p.tables e below Φ (s₁.setTop (mkF m 10 #[.val (.int n), .val (.int a), .val (.int b), .val (.int d), .val (.int e_), .val (.int c_), .val (.int ((c_ &&& (2147483647 : Int32)) % (5 : Int32))), .unset, .unset, .unset] [(.int (4 : Int32))]))
  obtain ⟨T1, h1, c1, X1, e1, E1, Ar1, st1⟩ := newP (aty := .int) X0 hx hZ (ow1 hw) e0 (g := (mkF m 10 #[.val (.int n), .val (.int a), .val (.int b), .val (.int d), .val (.int e_), .val (.int c_), .val (.int ((c_ &&& (2147483647 : Int32)) % (5 : Int32))), .unset, .unset, .unset] [(.int (4 : Int32))])) rfl (hb hby at_10) rfl (by decide) (cap := 4) (by decide) (by decide) (by decide) (by decide)
  obtain ⟨b1, g1⟩ : ∃ z, z = h0.size := ⟨_, rfl⟩
  rw [← g1] at Ar1 st1
  have gb1 : n0 ≤ b1 := Nat.le_trans Z0 (Nat.le_of_eq g1.symm)
  have Zs1 : n0 ≤ h1.size := Nat.le_trans Z0 E1.1
  have V1 : Arv Z h1 b1 c1 .int (4 : Int32) [(.int (0 : Int32)), (.int (0 : Int32)), (.int (0 : Int32)), (.int (0 : Int32))] (.int (0 : Int32)) := (Arv.new Ar1 (by decide)).pad (pad_rep [] _ 4)
  refine OGo.st st1 ?_
  show OGo p.tables e below Φ (T1.setTop (mkF m 12 #[.val (.int n), .val (.int a), .val (.int b), .val (.int d), .val (.int e_), .val (.int c_), .val (.int ((c_ &&& (2147483647 : Int32)) % (5 : Int32))), .unset, .unset, .unset] [(.ref b1)]))
  refine OGo.st (fun _ kz => XS.astore X1.here hx rfl (hb hby at_12) rfl rfl (l' := #[.val (.int n), .val (.int a), .val (.int b), .val (.int d), .val (.int e_), .val (.int c_), .val (.int ((c_ &&& (2147483647 : Int32)) % (5 : Int32))), .val (.ref b1), .unset, .unset]) rfl kz) ?_
  show OGo p.tables e below Φ (T1.setTop (mkF m 14 #[.val (.int n), .val (.int a), .val (.int b), .val (.int d), .val (.int e_), .val (.int c_), .val (.int ((c_ &&& (2147483647 : Int32)) % (5 : Int32))), .val (.ref b1), .unset, .unset] []))
  refine OGo.st (fun _ kz => XS.aload X1.here hx rfl (hb hby at_14) rfl rfl kz) ?_
  show OGo p.tables e below Φ (T1.setTop (mkF m 16 #[.val (.int n), .val (.int a), .val (.int b), .val (.int d), .val (.int e_), .val (.int c_), .val (.int ((c_ &&& (2147483647 : Int32)) % (5 : Int32))), .val (.ref b1), .unset, .unset] [(.ref b1)]))
  refine OGo.st (fun _ kz => XS.iconst X1.here hx rfl (hb hby at_16) kz) ?_
  show OGo p.tables e below Φ (T1.setTop (mkF m 17 #[.val (.int n), .val (.int a), .val (.int b), .val (.int d), .val (.int e_), .val (.int c_), .val (.int ((c_ &&& (2147483647 : Int32)) % (5 : Int32))), .val (.ref b1), .unset, .unset] [(.int (0 : Int32)), (.ref b1)]))
  refine OGo.st (fun _ kz => XS.iloadN X1.here hx rfl (hb hby at_17) rfl kz) ?_
  show OGo p.tables e below Φ (T1.setTop (mkF m 18 #[.val (.int n), .val (.int a), .val (.int b), .val (.int d), .val (.int e_), .val (.int c_), .val (.int ((c_ &&& (2147483647 : Int32)) % (5 : Int32))), .val (.ref b1), .unset, .unset] [(.int a), (.int (0 : Int32)), (.ref b1)]))
  obtain ⟨cl2, Aq2, Cq2, S2, M2, H2, G2⟩ := id V1
  have in2 : ¬ ((0 : Int32) < 0 ∨ cl2.slots.size ≤ (0 : Int32).toNatClampNeg) := inb_of S2 ⟨by decide, by decide⟩
  obtain ⟨T2, h2, X2, e2, W2, st2⟩ := stI X1 hx hZ e1 Aq2 in2 (g := (mkF m 18 #[.val (.int n), .val (.int a), .val (.int b), .val (.int d), .val (.int e_), .val (.int c_), .val (.int ((c_ &&& (2147483647 : Int32)) % (5 : Int32))), .val (.ref b1), .unset, .unset] [(.int a), (.int (0 : Int32)), (.ref b1)])) rfl rfl (hb hby at_18)
  have V2 : Arv Z h2 b1 c1 .int (4 : Int32) [(.int a), (.int (0 : Int32)), (.int (0 : Int32)), (.int (0 : Int32))] (.int (0 : Int32)) := Arv.set Aq2 Cq2 S2 M2 H2 G2 rfl W2 0 (by decide) (by show 0 < 4; decide)
  have N2 := Fr.snoc X2 N0 gb1
  have Zs2 : n0 ≤ h2.size := by rw [W2.size]; exact Zs1
  refine OGo.st st2 ?_
  show OGo p.tables e below Φ (T2.setTop (mkF m 19 #[.val (.int n), .val (.int a), .val (.int b), .val (.int d), .val (.int e_), .val (.int c_), .val (.int ((c_ &&& (2147483647 : Int32)) % (5 : Int32))), .val (.ref b1), .unset, .unset] []))
  refine OGo.st (fun _ kz => XS.aload X2.here hx rfl (hb hby at_19) rfl rfl kz) ?_
  show OGo p.tables e below Φ (T2.setTop (mkF m 21 #[.val (.int n), .val (.int a), .val (.int b), .val (.int d), .val (.int e_), .val (.int c_), .val (.int ((c_ &&& (2147483647 : Int32)) % (5 : Int32))), .val (.ref b1), .unset, .unset] [(.ref b1)]))
  refine OGo.st (fun _ kz => XS.iconst X2.here hx rfl (hb hby at_21) kz) ?_
  show OGo p.tables e below Φ (T2.setTop (mkF m 22 #[.val (.int n), .val (.int a), .val (.int b), .val (.int d), .val (.int e_), .val (.int c_), .val (.int ((c_ &&& (2147483647 : Int32)) % (5 : Int32))), .val (.ref b1), .unset, .unset] [(.int (1 : Int32)), (.ref b1)]))
  refine OGo.st (fun _ kz => XS.iloadN X2.here hx rfl (hb hby at_22) rfl kz) ?_
  show OGo p.tables e below Φ (T2.setTop (mkF m 23 #[.val (.int n), .val (.int a), .val (.int b), .val (.int d), .val (.int e_), .val (.int c_), .val (.int ((c_ &&& (2147483647 : Int32)) % (5 : Int32))), .val (.ref b1), .unset, .unset] [(.int b), (.int (1 : Int32)), (.ref b1)]))
  obtain ⟨cl3, Aq3, Cq3, S3, M3, H3, G3⟩ := id V2
  have in3 : ¬ ((1 : Int32) < 0 ∨ cl3.slots.size ≤ (1 : Int32).toNatClampNeg) := inb_of S3 ⟨by decide, by decide⟩
  obtain ⟨T3, h3, X3, e3, W3, st3⟩ := stI X2 hx hZ e2 Aq3 in3 (g := (mkF m 23 #[.val (.int n), .val (.int a), .val (.int b), .val (.int d), .val (.int e_), .val (.int c_), .val (.int ((c_ &&& (2147483647 : Int32)) % (5 : Int32))), .val (.ref b1), .unset, .unset] [(.int b), (.int (1 : Int32)), (.ref b1)])) rfl rfl (hb hby at_23)
  have V3 : Arv Z h3 b1 c1 .int (4 : Int32) [(.int a), (.int b), (.int (0 : Int32)), (.int (0 : Int32))] (.int (0 : Int32)) := Arv.set Aq3 Cq3 S3 M3 H3 G3 rfl W3 1 (by decide) (by show 1 < 4; decide)
  have N3 := Fr.snoc X3 N2 gb1
  have Zs3 : n0 ≤ h3.size := by rw [W3.size]; exact Zs2
  refine OGo.st st3 ?_
  show OGo p.tables e below Φ (T3.setTop (mkF m 24 #[.val (.int n), .val (.int a), .val (.int b), .val (.int d), .val (.int e_), .val (.int c_), .val (.int ((c_ &&& (2147483647 : Int32)) % (5 : Int32))), .val (.ref b1), .unset, .unset] []))
  refine OGo.st (fun _ kz => XS.aload X3.here hx rfl (hb hby at_24) rfl rfl kz) ?_
  show OGo p.tables e below Φ (T3.setTop (mkF m 26 #[.val (.int n), .val (.int a), .val (.int b), .val (.int d), .val (.int e_), .val (.int c_), .val (.int ((c_ &&& (2147483647 : Int32)) % (5 : Int32))), .val (.ref b1), .unset, .unset] [(.ref b1)]))
  refine OGo.st (fun _ kz => XS.iconst X3.here hx rfl (hb hby at_26) kz) ?_
  show OGo p.tables e below Φ (T3.setTop (mkF m 27 #[.val (.int n), .val (.int a), .val (.int b), .val (.int d), .val (.int e_), .val (.int c_), .val (.int ((c_ &&& (2147483647 : Int32)) % (5 : Int32))), .val (.ref b1), .unset, .unset] [(.int (2 : Int32)), (.ref b1)]))
  refine OGo.st (fun _ kz => XS.iloadN X3.here hx rfl (hb hby at_27) rfl kz) ?_
  show OGo p.tables e below Φ (T3.setTop (mkF m 28 #[.val (.int n), .val (.int a), .val (.int b), .val (.int d), .val (.int e_), .val (.int c_), .val (.int ((c_ &&& (2147483647 : Int32)) % (5 : Int32))), .val (.ref b1), .unset, .unset] [(.int d), (.int (2 : Int32)), (.ref b1)]))
  obtain ⟨cl4, Aq4, Cq4, S4, M4, H4, G4⟩ := id V3
  have in4 : ¬ ((2 : Int32) < 0 ∨ cl4.slots.size ≤ (2 : Int32).toNatClampNeg) := inb_of S4 ⟨by decide, by decide⟩
  obtain ⟨T4, h4, X4, e4, W4, st4⟩ := stI X3 hx hZ e3 Aq4 in4 (g := (mkF m 28 #[.val (.int n), .val (.int a), .val (.int b), .val (.int d), .val (.int e_), .val (.int c_), .val (.int ((c_ &&& (2147483647 : Int32)) % (5 : Int32))), .val (.ref b1), .unset, .unset] [(.int d), (.int (2 : Int32)), (.ref b1)])) rfl rfl (hb hby at_28)
  have V4 : Arv Z h4 b1 c1 .int (4 : Int32) [(.int a), (.int b), (.int d), (.int (0 : Int32))] (.int (0 : Int32)) := Arv.set Aq4 Cq4 S4 M4 H4 G4 rfl W4 2 (by decide) (by show 2 < 4; decide)
  have N4 := Fr.snoc X4 N3 gb1
  have Zs4 : n0 ≤ h4.size := by rw [W4.size]; exact Zs3
  refine OGo.st st4 ?_
  show OGo p.tables e below Φ (T4.setTop (mkF m 29 #[.val (.int n), .val (.int a), .val (.int b), .val (.int d), .val (.int e_), .val (.int c_), .val (.int ((c_ &&& (2147483647 : Int32)) % (5 : Int32))), .val (.ref b1), .unset, .unset] []))
  refine OGo.st (fun _ kz => XS.aload X4.here hx rfl (hb hby at_29) rfl rfl kz) ?_
  show OGo p.tables e below Φ (T4.setTop (mkF m 31 #[.val (.int n), .val (.int a), .val (.int b), .val (.int d), .val (.int e_), .val (.int c_), .val (.int ((c_ &&& (2147483647 : Int32)) % (5 : Int32))), .val (.ref b1), .unset, .unset] [(.ref b1)]))
  refine OGo.st (fun _ kz => XS.iconst X4.here hx rfl (hb hby at_31) kz) ?_
  show OGo p.tables e below Φ (T4.setTop (mkF m 32 #[.val (.int n), .val (.int a), .val (.int b), .val (.int d), .val (.int e_), .val (.int c_), .val (.int ((c_ &&& (2147483647 : Int32)) % (5 : Int32))), .val (.ref b1), .unset, .unset] [(.int (3 : Int32)), (.ref b1)]))
  refine OGo.st (fun _ kz => XS.iload X4.here hx rfl (hb hby at_32) rfl kz) ?_
  show OGo p.tables e below Φ (T4.setTop (mkF m 34 #[.val (.int n), .val (.int a), .val (.int b), .val (.int d), .val (.int e_), .val (.int c_), .val (.int ((c_ &&& (2147483647 : Int32)) % (5 : Int32))), .val (.ref b1), .unset, .unset] [(.int e_), (.int (3 : Int32)), (.ref b1)]))
  obtain ⟨cl5, Aq5, Cq5, S5, M5, H5, G5⟩ := id V4
  have in5 : ¬ ((3 : Int32) < 0 ∨ cl5.slots.size ≤ (3 : Int32).toNatClampNeg) := inb_of S5 ⟨by decide, by decide⟩
  obtain ⟨T5, h5, X5, e5, W5, st5⟩ := stI X4 hx hZ e4 Aq5 in5 (g := (mkF m 34 #[.val (.int n), .val (.int a), .val (.int b), .val (.int d), .val (.int e_), .val (.int c_), .val (.int ((c_ &&& (2147483647 : Int32)) % (5 : Int32))), .val (.ref b1), .unset, .unset] [(.int e_), (.int (3 : Int32)), (.ref b1)])) rfl rfl (hb hby at_34)
  have V5 : Arv Z h5 b1 c1 .int (4 : Int32) [(.int a), (.int b), (.int d), (.int e_)] (.int (0 : Int32)) := Arv.set Aq5 Cq5 S5 M5 H5 G5 rfl W5 3 (by decide) (by show 3 < 4; decide)
  have N5 := Fr.snoc X5 N4 gb1
  have Zs5 : n0 ≤ h5.size := by rw [W5.size]; exact Zs4
  refine OGo.st st5 ?_
  show OGo p.tables e below Φ (T5.setTop (mkF m 35 #[.val (.int n), .val (.int a), .val (.int b), .val (.int d), .val (.int e_), .val (.int c_), .val (.int ((c_ &&& (2147483647 : Int32)) % (5 : Int32))), .val (.ref b1), .unset, .unset] []))
  rcases own_mod5 c_ with hk6 | hk6 | hk6 | hk6 | hk6
  · rw [hk6]
    show OGo p.tables e below Φ (T5.setTop (mkF m 35 #[.val (.int n), .val (.int a), .val (.int b), .val (.int d), .val (.int e_), .val (.int c_), .val (.int (0 : Int32)), .val (.ref b1), .unset, .unset] []))
    refine OGo.st (fun _ kz => XS.iloadN X5.here hx rfl (hb hby at_35) rfl kz) ?_
    show OGo p.tables e below Φ (T5.setTop (mkF m 36 #[.val (.int n), .val (.int a), .val (.int b), .val (.int d), .val (.int e_), .val (.int c_), .val (.int (0 : Int32)), .val (.ref b1), .unset, .unset] [(.int n)]))
    refine OGo.st (fun _ kz => XS.iload X5.here hx rfl (hb hby at_36) rfl kz) ?_
    show OGo p.tables e below Φ (T5.setTop (mkF m 38 #[.val (.int n), .val (.int a), .val (.int b), .val (.int d), .val (.int e_), .val (.int c_), .val (.int (0 : Int32)), .val (.ref b1), .unset, .unset] [(.int (0 : Int32)), (.int n)]))
    obtain ⟨_, T7, L7, X7, hQ7, st7⟩ := own_callSt X5 hx hZ hown (ow2 hw) (ow3 hw) (ow4 hw) (ow5 hw) (by decide) (rm1 l Z a0 hw [] (0 : Int32) h5 n0 Zs5 ) e5 (W := 1) (by decide) (by decide) (by decide) (by decide) (pc := 38) (ls := #[.val (.int n), .val (.int a), .val (.int b), .val (.int d), .val (.int e_), .val (.int c_), .val (.int (0 : Int32)), .val (.ref b1), .unset, .unset]) (stk := [(.int (0 : Int32)), (.int n)]) (by rw [hml]; rfl) (argsL := [(.int (0 : Int32))]) (rest := [(.int n)]) (lenOf pd0 rfl) rfl rfl (Nat.le_of_eq rfl) (hb hby at_38)
    obtain ⟨rfl, Nq7, e7⟩ := hQ7
    have N7 := Fr.app N5 Nq7
    refine OGo.st st7 ?_
    show OGo p.tables e below Φ (T7.setTop (mkF m 41 #[.val (.int n), .val (.int a), .val (.int b), .val (.int d), .val (.int e_), .val (.int c_), .val (.int (0 : Int32)), .val (.ref b1), .unset, .unset] [(.int (own_pow (0 : Int32))), (.int n)]))
    refine OGo.st (fun _ kz => XS.imul X7.here hx rfl (hb hby at_41) rfl kz) ?_
    show OGo p.tables e below Φ (T7.setTop (mkF m 42 #[.val (.int n), .val (.int a), .val (.int b), .val (.int d), .val (.int e_), .val (.int c_), .val (.int (0 : Int32)), .val (.ref b1), .unset, .unset] [(.int (n * (own_pow (0 : Int32))))]))
    refine OGo.st (fun _ kz => XS.istore X7.here hx rfl (hb hby at_42) rfl (l' := #[.val (.int n), .val (.int a), .val (.int b), .val (.int d), .val (.int e_), .val (.int c_), .val (.int (0 : Int32)), .val (.ref b1), .val (.int (n * (own_pow (0 : Int32)))), .unset]) rfl kz) ?_
    show OGo p.tables e below Φ (T7.setTop (mkF m 44 #[.val (.int n), .val (.int a), .val (.int b), .val (.int d), .val (.int e_), .val (.int c_), .val (.int (0 : Int32)), .val (.ref b1), .val (.int (n * (own_pow (0 : Int32)))), .unset] []))
    refine OGo.st (fun _ kz => XS.iload X7.here hx rfl (hb hby at_44) rfl kz) ?_
    show OGo p.tables e below Φ (T7.setTop (mkF m 46 #[.val (.int n), .val (.int a), .val (.int b), .val (.int d), .val (.int e_), .val (.int c_), .val (.int (0 : Int32)), .val (.ref b1), .val (.int (n * (own_pow (0 : Int32)))), .unset] [(.int (0 : Int32))]))
    refine OGo.st (fun _ kz => XS.ifYes X7.here hx rfl (pc0 := 46) (pc' := 63) rfl (hb hby at_46) rfl (XT.i0_le_t (by decide)) (by decide) (by decide) kz) ?_
    show OGo p.tables e below Φ (T7.setTop (mkF m 63 #[.val (.int n), .val (.int a), .val (.int b), .val (.int d), .val (.int e_), .val (.int c_), .val (.int (0 : Int32)), .val (.ref b1), .val (.int (n * (own_pow (0 : Int32)))), .unset] []))
    refine OGo.st (fun _ kz => XS.iload X7.here hx rfl (hb hby at_63) rfl kz) ?_
    show OGo p.tables e below Φ (T7.setTop (mkF m 65 #[.val (.int n), .val (.int a), .val (.int b), .val (.int d), .val (.int e_), .val (.int c_), .val (.int (0 : Int32)), .val (.ref b1), .val (.int (n * (own_pow (0 : Int32)))), .unset] [(.int (0 : Int32))]))
    refine OGo.st (fun _ kz => XS.iconst X7.here hx rfl (hb hby at_65) kz) ?_
    show OGo p.tables e below Φ (T7.setTop (mkF m 66 #[.val (.int n), .val (.int a), .val (.int b), .val (.int d), .val (.int e_), .val (.int c_), .val (.int (0 : Int32)), .val (.ref b1), .val (.int (n * (own_pow (0 : Int32)))), .unset] [(.int (1 : Int32)), (.int (0 : Int32))]))
    refine OGo.st (fun _ kz => XS.icmpYes X7.here hx rfl (pc0 := 66) (pc' := 83) rfl (hb hby at_66) rfl (XT.ii_le_t (by decide)) (by decide) (by decide) kz) ?_
    show OGo p.tables e below Φ (T7.setTop (mkF m 83 #[.val (.int n), .val (.int a), .val (.int b), .val (.int d), .val (.int e_), .val (.int c_), .val (.int (0 : Int32)), .val (.ref b1), .val (.int (n * (own_pow (0 : Int32)))), .unset] []))
    refine OGo.st (fun _ kz => XS.iload X7.here hx rfl (hb hby at_83) rfl kz) ?_
    show OGo p.tables e below Φ (T7.setTop (mkF m 85 #[.val (.int n), .val (.int a), .val (.int b), .val (.int d), .val (.int e_), .val (.int c_), .val (.int (0 : Int32)), .val (.ref b1), .val (.int (n * (own_pow (0 : Int32)))), .unset] [(.int (0 : Int32))]))
    refine OGo.st (fun _ kz => XS.iconst X7.here hx rfl (hb hby at_85) kz) ?_
    show OGo p.tables e below Φ (T7.setTop (mkF m 86 #[.val (.int n), .val (.int a), .val (.int b), .val (.int d), .val (.int e_), .val (.int c_), .val (.int (0 : Int32)), .val (.ref b1), .val (.int (n * (own_pow (0 : Int32)))), .unset] [(.int (2 : Int32)), (.int (0 : Int32))]))
    refine OGo.st (fun _ kz => XS.icmpYes X7.here hx rfl (pc0 := 86) (pc' := 103) rfl (hb hby at_86) rfl (XT.ii_le_t (by decide)) (by decide) (by decide) kz) ?_
    show OGo p.tables e below Φ (T7.setTop (mkF m 103 #[.val (.int n), .val (.int a), .val (.int b), .val (.int d), .val (.int e_), .val (.int c_), .val (.int (0 : Int32)), .val (.ref b1), .val (.int (n * (own_pow (0 : Int32)))), .unset] []))
    refine OGo.st (fun _ kz => XS.iload X7.here hx rfl (hb hby at_103) rfl kz) ?_
    show OGo p.tables e below Φ (T7.setTop (mkF m 105 #[.val (.int n), .val (.int a), .val (.int b), .val (.int d), .val (.int e_), .val (.int c_), .val (.int (0 : Int32)), .val (.ref b1), .val (.int (n * (own_pow (0 : Int32)))), .unset] [(.int (0 : Int32))]))
    refine OGo.st (fun _ kz => XS.iconst X7.here hx rfl (hb hby at_105) kz) ?_
    show OGo p.tables e below Φ (T7.setTop (mkF m 106 #[.val (.int n), .val (.int a), .val (.int b), .val (.int d), .val (.int e_), .val (.int c_), .val (.int (0 : Int32)), .val (.ref b1), .val (.int (n * (own_pow (0 : Int32)))), .unset] [(.int (3 : Int32)), (.int (0 : Int32))]))
    refine OGo.st (fun _ kz => XS.icmpYes X7.here hx rfl (pc0 := 106) (pc' := 124) rfl (hb hby at_106) rfl (XT.ii_le_t (by decide)) (by decide) (by decide) kz) ?_
    show OGo p.tables e below Φ (T7.setTop (mkF m 124 #[.val (.int n), .val (.int a), .val (.int b), .val (.int d), .val (.int e_), .val (.int c_), .val (.int (0 : Int32)), .val (.ref b1), .val (.int (n * (own_pow (0 : Int32)))), .unset] []))
    refine OGo.st (fun _ kz => XS.iloadN X7.here hx rfl (hb hby at_124) rfl kz) ?_
    show OGo p.tables e below Φ (T7.setTop (mkF m 125 #[.val (.int n), .val (.int a), .val (.int b), .val (.int d), .val (.int e_), .val (.int c_), .val (.int (0 : Int32)), .val (.ref b1), .val (.int (n * (own_pow (0 : Int32)))), .unset] [(.int n)]))
    refine OGo.st (fun _ kz => XS.aload X7.here hx rfl (hb hby at_125) rfl rfl kz) ?_
    show OGo p.tables e below Φ (T7.setTop (mkF m 127 #[.val (.int n), .val (.int a), .val (.int b), .val (.int d), .val (.int e_), .val (.int c_), .val (.int (0 : Int32)), .val (.ref b1), .val (.int (n * (own_pow (0 : Int32)))), .unset] [(.ref b1), (.int n)]))
    refine OGo.st (fun _ kz => XS.iload X7.here hx rfl (hb hby at_127) rfl kz) ?_
    show OGo p.tables e below Φ (T7.setTop (mkF m 129 #[.val (.int n), .val (.int a), .val (.int b), .val (.int d), .val (.int e_), .val (.int c_), .val (.int (0 : Int32)), .val (.ref b1), .val (.int (n * (own_pow (0 : Int32)))), .unset] [(.int (0 : Int32)), (.ref b1), (.int n)]))
    obtain ⟨_, T8, L8, X8, hQ8, st8⟩ := own_callSt X7 hx hZ hown (ow6 hw) (ow7 hw) (ow8 hw) (ow9 hw) (by decide) (rm2_0 l Z a0 hw [] n b1 c1 a b d e_ h5 n0 Zs5 V5) e7 (W := 0) (by decide) (by decide) (by decide) (by decide) (pc := 129) (ls := #[.val (.int n), .val (.int a), .val (.int b), .val (.int d), .val (.int e_), .val (.int c_), .val (.int (0 : Int32)), .val (.ref b1), .val (.int (n * (own_pow (0 : Int32)))), .unset]) (stk := [(.int (0 : Int32)), (.ref b1), (.int n)]) (by rw [hml]; rfl) (argsL := [(.int n), (.ref b1), (.int (0 : Int32))]) (rest := []) (lenOf pd1 rfl) rfl rfl (Nat.le_of_eq rfl) (hb hby at_129)
    obtain ⟨rfl, Nq8, e8⟩ := hQ8
    have N8 := Fr.app N7 Nq8
    refine OGo.st st8 ?_
    show OGo p.tables e below Φ (T8.setTop (mkF m 132 #[.val (.int n), .val (.int a), .val (.int b), .val (.int d), .val (.int e_), .val (.int c_), .val (.int (0 : Int32)), .val (.ref b1), .val (.int (n * (own_pow (0 : Int32)))), .unset] [(.int n)]))
    refine OGo.st (fun _ kz => XS.istore X8.here hx rfl (hb hby at_132) rfl (l' := #[.val (.int n), .val (.int a), .val (.int b), .val (.int d), .val (.int e_), .val (.int c_), .val (.int (0 : Int32)), .val (.ref b1), .val (.int (n * (own_pow (0 : Int32)))), .val (.int n)]) rfl kz) ?_
    show OGo p.tables e below Φ (T8.setTop (mkF m 134 #[.val (.int n), .val (.int a), .val (.int b), .val (.int d), .val (.int e_), .val (.int c_), .val (.int (0 : Int32)), .val (.ref b1), .val (.int (n * (own_pow (0 : Int32)))), .val (.int n)] []))
    refine OGo.st (fun _ kz => XS.iload X8.here hx rfl (hb hby at_134) rfl kz) ?_
    show OGo p.tables e below Φ (T8.setTop (mkF m 136 #[.val (.int n), .val (.int a), .val (.int b), .val (.int d), .val (.int e_), .val (.int c_), .val (.int (0 : Int32)), .val (.ref b1), .val (.int (n * (own_pow (0 : Int32)))), .val (.int n)] [(.int n)]))
    refine OGo.st (fun _ kz => XS.iload X8.here hx rfl (hb hby at_136) rfl kz) ?_
    show OGo p.tables e below Φ (T8.setTop (mkF m 138 #[.val (.int n), .val (.int a), .val (.int b), .val (.int d), .val (.int e_), .val (.int c_), .val (.int (0 : Int32)), .val (.ref b1), .val (.int (n * (own_pow (0 : Int32)))), .val (.int n)] [(.int (n * (own_pow (0 : Int32)))), (.int n)]))
    by_cases hc9 : n = (n * (own_pow (0 : Int32)))
    · refine OGo.st (fun _ kz => XS.icmpNo X8.here hx rfl (hb hby at_138) rfl (XT.ii_ne_f hc9) kz) ?_
      show OGo p.tables e below Φ (T8.setTop (mkF m 141 #[.val (.int n), .val (.int a), .val (.int b), .val (.int d), .val (.int e_), .val (.int c_), .val (.int (0 : Int32)), .val (.ref b1), .val (.int (n * (own_pow (0 : Int32)))), .val (.int n)] []))
      refine OGo.st (fun _ kz => XS.iconst X8.here hx rfl (hb hby at_141) kz) ?_
      show OGo p.tables e below Φ (T8.setTop (mkF m 142 #[.val (.int n), .val (.int a), .val (.int b), .val (.int d), .val (.int e_), .val (.int c_), .val (.int (0 : Int32)), .val (.ref b1), .val (.int (n * (own_pow (0 : Int32)))), .val (.int n)] [(.int (1 : Int32))]))
      refine OGo.st (fun _ kz => XS.goto X8.here hx rfl (pc0 := 142) (pc' := 146) rfl (hb hby at_142) (by decide) (by decide) kz) ?_
      show OGo p.tables e below Φ (T8.setTop (mkF m 146 #[.val (.int n), .val (.int a), .val (.int b), .val (.int d), .val (.int e_), .val (.int c_), .val (.int (0 : Int32)), .val (.ref b1), .val (.int (n * (own_pow (0 : Int32)))), .val (.int n)] [(.int (1 : Int32))]))
      refine OGo.fin X8 hlk (v := (some (.int (1 : Int32)))) (fun h => by rw [hret] at h; cases h) (by decide) (by decide) (fun fs hr => X8.ireturnOut hx hret rfl (by simp) (hb hby at_146) hr) fun U eU hF => hΦ _ _ _ ?_ hF
      rw [eU, e8]
      show Q_rm0 Z n a b d e_ c_ h0 n0 _ _ _
      exact ⟨rfl, N8⟩
    · refine OGo.st (fun _ kz => XS.icmpYes X8.here hx rfl (pc0 := 138) (pc' := 145) rfl (hb hby at_138) rfl (XT.ii_ne_t hc9) (by decide) (by decide) kz) ?_
      show OGo p.tables e below Φ (T8.setTop (mkF m 145 #[.val (.int n), .val (.int a), .val (.int b), .val (.int d), .val (.int e_), .val (.int c_), .val (.int (0 : Int32)), .val (.ref b1), .val (.int (n * (own_pow (0 : Int32)))), .val (.int n)] []))
      refine OGo.st (fun _ kz => XS.iconst X8.here hx rfl (hb hby at_145) kz) ?_
      show OGo p.tables e below Φ (T8.setTop (mkF m 146 #[.val (.int n), .val (.int a), .val (.int b), .val (.int d), .val (.int e_), .val (.int c_), .val (.int (0 : Int32)), .val (.ref b1), .val (.int (n * (own_pow (0 : Int32)))), .val (.int n)] [(.int (0 : Int32))]))
      exact absurd (by simp only [own_pow0, own_pow1, own_pow2, own_pow3, own_pow4]; grind) hc9
  · rw [hk6]
    show OGo p.tables e below Φ (T5.setTop (mkF m 35 #[.val (.int n), .val (.int a), .val (.int b), .val (.int d), .val (.int e_), .val (.int c_), .val (.int (1 : Int32)), .val (.ref b1), .unset, .unset] []))
    refine OGo.st (fun _ kz => XS.iloadN X5.here hx rfl (hb hby at_35) rfl kz) ?_
    show OGo p.tables e below Φ (T5.setTop (mkF m 36 #[.val (.int n), .val (.int a), .val (.int b), .val (.int d), .val (.int e_), .val (.int c_), .val (.int (1 : Int32)), .val (.ref b1), .unset, .unset] [(.int n)]))
    refine OGo.st (fun _ kz => XS.iload X5.here hx rfl (hb hby at_36) rfl kz) ?_
    show OGo p.tables e below Φ (T5.setTop (mkF m 38 #[.val (.int n), .val (.int a), .val (.int b), .val (.int d), .val (.int e_), .val (.int c_), .val (.int (1 : Int32)), .val (.ref b1), .unset, .unset] [(.int (1 : Int32)), (.int n)]))
    obtain ⟨_, T10, L10, X10, hQ10, st10⟩ := own_callSt X5 hx hZ hown (ow2 hw) (ow3 hw) (ow4 hw) (ow5 hw) (by decide) (rm1 l Z a0 hw [] (1 : Int32) h5 n0 Zs5 ) e5 (W := 1) (by decide) (by decide) (by decide) (by decide) (pc := 38) (ls := #[.val (.int n), .val (.int a), .val (.int b), .val (.int d), .val (.int e_), .val (.int c_), .val (.int (1 : Int32)), .val (.ref b1), .unset, .unset]) (stk := [(.int (1 : Int32)), (.int n)]) (by rw [hml]; rfl) (argsL := [(.int (1 : Int32))]) (rest := [(.int n)]) (lenOf pd0 rfl) rfl rfl (Nat.le_of_eq rfl) (hb hby at_38)
    obtain ⟨rfl, Nq10, e10⟩ := hQ10
    have N10 := Fr.app N5 Nq10
    refine OGo.st st10 ?_
    show OGo p.tables e below Φ (T10.setTop (mkF m 41 #[.val (.int n), .val (.int a), .val (.int b), .val (.int d), .val (.int e_), .val (.int c_), .val (.int (1 : Int32)), .val (.ref b1), .unset, .unset] [(.int (own_pow (1 : Int32))), (.int n)]))
    refine OGo.st (fun _ kz => XS.imul X10.here hx rfl (hb hby at_41) rfl kz) ?_
    show OGo p.tables e below Φ (T10.setTop (mkF m 42 #[.val (.int n), .val (.int a), .val (.int b), .val (.int d), .val (.int e_), .val (.int c_), .val (.int (1 : Int32)), .val (.ref b1), .unset, .unset] [(.int (n * (own_pow (1 : Int32))))]))
    refine OGo.st (fun _ kz => XS.istore X10.here hx rfl (hb hby at_42) rfl (l' := #[.val (.int n), .val (.int a), .val (.int b), .val (.int d), .val (.int e_), .val (.int c_), .val (.int (1 : Int32)), .val (.ref b1), .val (.int (n * (own_pow (1 : Int32)))), .unset]) rfl kz) ?_
    show OGo p.tables e below Φ (T10.setTop (mkF m 44 #[.val (.int n), .val (.int a), .val (.int b), .val (.int d), .val (.int e_), .val (.int c_), .val (.int (1 : Int32)), .val (.ref b1), .val (.int (n * (own_pow (1 : Int32)))), .unset] []))
    refine OGo.st (fun _ kz => XS.iload X10.here hx rfl (hb hby at_44) rfl kz) ?_
    show OGo p.tables e below Φ (T10.setTop (mkF m 46 #[.val (.int n), .val (.int a), .val (.int b), .val (.int d), .val (.int e_), .val (.int c_), .val (.int (1 : Int32)), .val (.ref b1), .val (.int (n * (own_pow (1 : Int32)))), .unset] [(.int (1 : Int32))]))
    refine OGo.st (fun _ kz => XS.ifNo X10.here hx rfl (hb hby at_46) rfl (XT.i0_le_f (by decide)) kz) ?_
    show OGo p.tables e below Φ (T10.setTop (mkF m 49 #[.val (.int n), .val (.int a), .val (.int b), .val (.int d), .val (.int e_), .val (.int c_), .val (.int (1 : Int32)), .val (.ref b1), .val (.int (n * (own_pow (1 : Int32)))), .unset] []))
    refine OGo.st (fun _ kz => XS.iload X10.here hx rfl (hb hby at_49) rfl kz) ?_
    show OGo p.tables e below Φ (T10.setTop (mkF m 51 #[.val (.int n), .val (.int a), .val (.int b), .val (.int d), .val (.int e_), .val (.int c_), .val (.int (1 : Int32)), .val (.ref b1), .val (.int (n * (own_pow (1 : Int32)))), .unset] [(.int (n * (own_pow (1 : Int32))))]))
    refine OGo.st (fun _ kz => XS.iloadN X10.here hx rfl (hb hby at_51) rfl kz) ?_
    show OGo p.tables e below Φ (T10.setTop (mkF m 52 #[.val (.int n), .val (.int a), .val (.int b), .val (.int d), .val (.int e_), .val (.int c_), .val (.int (1 : Int32)), .val (.ref b1), .val (.int (n * (own_pow (1 : Int32)))), .unset] [(.int a), (.int (n * (own_pow (1 : Int32))))]))
    refine OGo.st (fun _ kz => XS.iload X10.here hx rfl (hb hby at_52) rfl kz) ?_
    show OGo p.tables e below Φ (T10.setTop (mkF m 54 #[.val (.int n), .val (.int a), .val (.int b), .val (.int d), .val (.int e_), .val (.int c_), .val (.int (1 : Int32)), .val (.ref b1), .val (.int (n * (own_pow (1 : Int32)))), .unset] [(.int (1 : Int32)), (.int a), (.int (n * (own_pow (1 : Int32))))]))
    refine OGo.st (fun _ kz => XS.iconst X10.here hx rfl (hb hby at_54) kz) ?_
    show OGo p.tables e below Φ (T10.setTop (mkF m 55 #[.val (.int n), .val (.int a), .val (.int b), .val (.int d), .val (.int e_), .val (.int c_), .val (.int (1 : Int32)), .val (.ref b1), .val (.int (n * (own_pow (1 : Int32)))), .unset] [(.int (1 : Int32)), (.int (1 : Int32)), (.int a), (.int (n * (own_pow (1 : Int32))))]))
    refine OGo.st (fun _ kz => XS.isub X10.here hx rfl (hb hby at_55) rfl kz) ?_
    show OGo p.tables e below Φ (T10.setTop (mkF m 56 #[.val (.int n), .val (.int a), .val (.int b), .val (.int d), .val (.int e_), .val (.int c_), .val (.int (1 : Int32)), .val (.ref b1), .val (.int (n * (own_pow (1 : Int32)))), .unset] [(.int (0 : Int32)), (.int a), (.int (n * (own_pow (1 : Int32))))]))
    obtain ⟨_, T11, L11, X11, hQ11, st11⟩ := own_callSt X10 hx hZ hown (ow2 hw) (ow3 hw) (ow4 hw) (ow5 hw) (by decide) (rm1 l Z a0 hw [] (0 : Int32) h5 n0 Zs5 ) e10 (W := 2) (by decide) (by decide) (by decide) (by decide) (pc := 56) (ls := #[.val (.int n), .val (.int a), .val (.int b), .val (.int d), .val (.int e_), .val (.int c_), .val (.int (1 : Int32)), .val (.ref b1), .val (.int (n * (own_pow (1 : Int32)))), .unset]) (stk := [(.int (0 : Int32)), (.int a), (.int (n * (own_pow (1 : Int32))))]) (by rw [hml]; rfl) (argsL := [(.int (0 : Int32))]) (rest := [(.int a), (.int (n * (own_pow (1 : Int32))))]) (lenOf pd0 rfl) rfl rfl (Nat.le_of_eq rfl) (hb hby at_56)
    obtain ⟨rfl, Nq11, e11⟩ := hQ11
    have N11 := Fr.app N10 Nq11
    refine OGo.st st11 ?_
    show OGo p.tables e below Φ (T11.setTop (mkF m 59 #[.val (.int n), .val (.int a), .val (.int b), .val (.int d), .val (.int e_), .val (.int c_), .val (.int (1 : Int32)), .val (.ref b1), .val (.int (n * (own_pow (1 : Int32)))), .unset] [(.int (own_pow (0 : Int32))), (.int a), (.int (n * (own_pow (1 : Int32))))]))
    refine OGo.st (fun _ kz => XS.imul X11.here hx rfl (hb hby at_59) rfl kz) ?_
    show OGo p.tables e below Φ (T11.setTop (mkF m 60 #[.val (.int n), .val (.int a), .val (.int b), .val (.int d), .val (.int e_), .val (.int c_), .val (.int (1 : Int32)), .val (.ref b1), .val (.int (n * (own_pow (1 : Int32)))), .unset] [(.int (a * (own_pow (0 : Int32)))), (.int (n * (own_pow (1 : Int32))))]))
    refine OGo.st (fun _ kz => XS.iadd X11.here hx rfl (hb hby at_60) rfl kz) ?_
    show OGo p.tables e below Φ (T11.setTop (mkF m 61 #[.val (.int n), .val (.int a), .val (.int b), .val (.int d), .val (.int e_), .val (.int c_), .val (.int (1 : Int32)), .val (.ref b1), .val (.int (n * (own_pow (1 : Int32)))), .unset] [(.int ((n * (own_pow (1 : Int32))) + (a * (own_pow (0 : Int32)))))]))
    refine OGo.st (fun _ kz => XS.istore X11.here hx rfl (hb hby at_61) rfl (l' := #[.val (.int n), .val (.int a), .val (.int b), .val (.int d), .val (.int e_), .val (.int c_), .val (.int (1 : Int32)), .val (.ref b1), .val (.int ((n * (own_pow (1 : Int32))) + (a * (own_pow (0 : Int32))))), .unset]) rfl kz) ?_
    show OGo p.tables e below Φ (T11.setTop (mkF m 63 #[.val (.int n), .val (.int a), .val (.int b), .val (.int d), .val (.int e_), .val (.int c_), .val (.int (1 : Int32)), .val (.ref b1), .val (.int ((n * (own_pow (1 : Int32))) + (a * (own_pow (0 : Int32))))), .unset] []))
    refine OGo.st (fun _ kz => XS.iload X11.here hx rfl (hb hby at_63) rfl kz) ?_
    show OGo p.tables e below Φ (T11.setTop (mkF m 65 #[.val (.int n), .val (.int a), .val (.int b), .val (.int d), .val (.int e_), .val (.int c_), .val (.int (1 : Int32)), .val (.ref b1), .val (.int ((n * (own_pow (1 : Int32))) + (a * (own_pow (0 : Int32))))), .unset] [(.int (1 : Int32))]))
    refine OGo.st (fun _ kz => XS.iconst X11.here hx rfl (hb hby at_65) kz) ?_
    show OGo p.tables e below Φ (T11.setTop (mkF m 66 #[.val (.int n), .val (.int a), .val (.int b), .val (.int d), .val (.int e_), .val (.int c_), .val (.int (1 : Int32)), .val (.ref b1), .val (.int ((n * (own_pow (1 : Int32))) + (a * (own_pow (0 : Int32))))), .unset] [(.int (1 : Int32)), (.int (1 : Int32))]))
    refine OGo.st (fun _ kz => XS.icmpYes X11.here hx rfl (pc0 := 66) (pc' := 83) rfl (hb hby at_66) rfl (XT.ii_le_t (by decide)) (by decide) (by decide) kz) ?_
    show OGo p.tables e below Φ (T11.setTop (mkF m 83 #[.val (.int n), .val (.int a), .val (.int b), .val (.int d), .val (.int e_), .val (.int c_), .val (.int (1 : Int32)), .val (.ref b1), .val (.int ((n * (own_pow (1 : Int32))) + (a * (own_pow (0 : Int32))))), .unset] []))
    refine OGo.st (fun _ kz => XS.iload X11.here hx rfl (hb hby at_83) rfl kz) ?_
    show OGo p.tables e below Φ (T11.setTop (mkF m 85 #[.val (.int n), .val (.int a), .val (.int b), .val (.int d), .val (.int e_), .val (.int c_), .val (.int (1 : Int32)), .val (.ref b1), .val (.int ((n * (own_pow (1 : Int32))) + (a * (own_pow (0 : Int32))))), .unset] [(.int (1 : Int32))]))
    refine OGo.st (fun _ kz => XS.iconst X11.here hx rfl (hb hby at_85) kz) ?_
    show OGo p.tables e below Φ (T11.setTop (mkF m 86 #[.val (.int n), .val (.int a), .val (.int b), .val (.int d), .val (.int e_), .val (.int c_), .val (.int (1 : Int32)), .val (.ref b1), .val (.int ((n * (own_pow (1 : Int32))) + (a * (own_pow (0 : Int32))))), .unset] [(.int (2 : Int32)), (.int (1 : Int32))]))
    refine OGo.st (fun _ kz => XS.icmpYes X11.here hx rfl (pc0 := 86) (pc' := 103) rfl (hb hby at_86) rfl (XT.ii_le_t (by decide)) (by decide) (by decide) kz) ?_
    show OGo p.tables e below Φ (T11.setTop (mkF m 103 #[.val (.int n), .val (.int a), .val (.int b), .val (.int d), .val (.int e_), .val (.int c_), .val (.int (1 : Int32)), .val (.ref b1), .val (.int ((n * (own_pow (1 : Int32))) + (a * (own_pow (0 : Int32))))), .unset] []))
    refine OGo.st (fun _ kz => XS.iload X11.here hx rfl (hb hby at_103) rfl kz) ?_
    show OGo p.tables e below Φ (T11.setTop (mkF m 105 #[.val (.int n), .val (.int a), .val (.int b), .val (.int d), .val (.int e_), .val (.int c_), .val (.int (1 : Int32)), .val (.ref b1), .val (.int ((n * (own_pow (1 : Int32))) + (a * (own_pow (0 : Int32))))), .unset] [(.int (1 : Int32))]))
    refine OGo.st (fun _ kz => XS.iconst X11.here hx rfl (hb hby at_105) kz) ?_
    show OGo p.tables e below Φ (T11.setTop (mkF m 106 #[.val (.int n), .val (.int a), .val (.int b), .val (.int d), .val (.int e_), .val (.int c_), .val (.int (1 : Int32)), .val (.ref b1), .val (.int ((n * (own_pow (1 : Int32))) + (a * (own_pow (0 : Int32))))), .unset] [(.int (3 : Int32)), (.int (1 : Int32))]))
    refine OGo.st (fun _ kz => XS.icmpYes X11.here hx rfl (pc0 := 106) (pc' := 124) rfl (hb hby at_106) rfl (XT.ii_le_t (by decide)) (by decide) (by decide) kz) ?_
    show OGo p.tables e below Φ (T11.setTop (mkF m 124 #[.val (.int n), .val (.int a), .val (.int b), .val (.int d), .val (.int e_), .val (.int c_), .val (.int (1 : Int32)), .val (.ref b1), .val (.int ((n * (own_pow (1 : Int32))) + (a * (own_pow (0 : Int32))))), .unset] []))
    refine OGo.st (fun _ kz => XS.iloadN X11.here hx rfl (hb hby at_124) rfl kz) ?_
    show OGo p.tables e below Φ (T11.setTop (mkF m 125 #[.val (.int n), .val (.int a), .val (.int b), .val (.int d), .val (.int e_), .val (.int c_), .val (.int (1 : Int32)), .val (.ref b1), .val (.int ((n * (own_pow (1 : Int32))) + (a * (own_pow (0 : Int32))))), .unset] [(.int n)]))
    refine OGo.st (fun _ kz => XS.aload X11.here hx rfl (hb hby at_125) rfl rfl kz) ?_
    show OGo p.tables e below Φ (T11.setTop (mkF m 127 #[.val (.int n), .val (.int a), .val (.int b), .val (.int d), .val (.int e_), .val (.int c_), .val (.int (1 : Int32)), .val (.ref b1), .val (.int ((n * (own_pow (1 : Int32))) + (a * (own_pow (0 : Int32))))), .unset] [(.ref b1), (.int n)]))
    refine OGo.st (fun _ kz => XS.iload X11.here hx rfl (hb hby at_127) rfl kz) ?_
    show OGo p.tables e below Φ (T11.setTop (mkF m 129 #[.val (.int n), .val (.int a), .val (.int b), .val (.int d), .val (.int e_), .val (.int c_), .val (.int (1 : Int32)), .val (.ref b1), .val (.int ((n * (own_pow (1 : Int32))) + (a * (own_pow (0 : Int32))))), .unset] [(.int (1 : Int32)), (.ref b1), (.int n)]))
    obtain ⟨_, T12, L12, X12, hQ12, st12⟩ := own_callSt X11 hx hZ hown (ow6 hw) (ow7 hw) (ow8 hw) (ow9 hw) (by decide) (rm2_1 l Z a0 hw [] n b1 c1 a b d e_ h5 n0 Zs5 V5) e11 (W := 0) (by decide) (by decide) (by decide) (by decide) (pc := 129) (ls := #[.val (.int n), .val (.int a), .val (.int b), .val (.int d), .val (.int e_), .val (.int c_), .val (.int (1 : Int32)), .val (.ref b1), .val (.int ((n * (own_pow (1 : Int32))) + (a * (own_pow (0 : Int32))))), .unset]) (stk := [(.int (1 : Int32)), (.ref b1), (.int n)]) (by rw [hml]; rfl) (argsL := [(.int n), (.ref b1), (.int (1 : Int32))]) (rest := []) (lenOf pd1 rfl) rfl rfl (Nat.le_of_eq rfl) (hb hby at_129)
    obtain ⟨rfl, Nq12, e12⟩ := hQ12
    have N12 := Fr.app N11 Nq12
    refine OGo.st st12 ?_
    show OGo p.tables e below Φ (T12.setTop (mkF m 132 #[.val (.int n), .val (.int a), .val (.int b), .val (.int d), .val (.int e_), .val (.int c_), .val (.int (1 : Int32)), .val (.ref b1), .val (.int ((n * (own_pow (1 : Int32))) + (a * (own_pow (0 : Int32))))), .unset] [(.int (((31 : Int32) * n) + a))]))
    refine OGo.st (fun _ kz => XS.istore X12.here hx rfl (hb hby at_132) rfl (l' := #[.val (.int n), .val (.int a), .val (.int b), .val (.int d), .val (.int e_), .val (.int c_), .val (.int (1 : Int32)), .val (.ref b1), .val (.int ((n * (own_pow (1 : Int32))) + (a * (own_pow (0 : Int32))))), .val (.int (((31 : Int32) * n) + a))]) rfl kz) ?_
    show OGo p.tables e below Φ (T12.setTop (mkF m 134 #[.val (.int n), .val (.int a), .val (.int b), .val (.int d), .val (.int e_), .val (.int c_), .val (.int (1 : Int32)), .val (.ref b1), .val (.int ((n * (own_pow (1 : Int32))) + (a * (own_pow (0 : Int32))))), .val (.int (((31 : Int32) * n) + a))] []))
    refine OGo.st (fun _ kz => XS.iload X12.here hx rfl (hb hby at_134) rfl kz) ?_
    show OGo p.tables e below Φ (T12.setTop (mkF m 136 #[.val (.int n), .val (.int a), .val (.int b), .val (.int d), .val (.int e_), .val (.int c_), .val (.int (1 : Int32)), .val (.ref b1), .val (.int ((n * (own_pow (1 : Int32))) + (a * (own_pow (0 : Int32))))), .val (.int (((31 : Int32) * n) + a))] [(.int (((31 : Int32) * n) + a))]))
    refine OGo.st (fun _ kz => XS.iload X12.here hx rfl (hb hby at_136) rfl kz) ?_
    show OGo p.tables e below Φ (T12.setTop (mkF m 138 #[.val (.int n), .val (.int a), .val (.int b), .val (.int d), .val (.int e_), .val (.int c_), .val (.int (1 : Int32)), .val (.ref b1), .val (.int ((n * (own_pow (1 : Int32))) + (a * (own_pow (0 : Int32))))), .val (.int (((31 : Int32) * n) + a))] [(.int ((n * (own_pow (1 : Int32))) + (a * (own_pow (0 : Int32))))), (.int (((31 : Int32) * n) + a))]))
    by_cases hc13 : (((31 : Int32) * n) + a) = ((n * (own_pow (1 : Int32))) + (a * (own_pow (0 : Int32))))
    · refine OGo.st (fun _ kz => XS.icmpNo X12.here hx rfl (hb hby at_138) rfl (XT.ii_ne_f hc13) kz) ?_
      show OGo p.tables e below Φ (T12.setTop (mkF m 141 #[.val (.int n), .val (.int a), .val (.int b), .val (.int d), .val (.int e_), .val (.int c_), .val (.int (1 : Int32)), .val (.ref b1), .val (.int ((n * (own_pow (1 : Int32))) + (a * (own_pow (0 : Int32))))), .val (.int (((31 : Int32) * n) + a))] []))
      refine OGo.st (fun _ kz => XS.iconst X12.here hx rfl (hb hby at_141) kz) ?_
      show OGo p.tables e below Φ (T12.setTop (mkF m 142 #[.val (.int n), .val (.int a), .val (.int b), .val (.int d), .val (.int e_), .val (.int c_), .val (.int (1 : Int32)), .val (.ref b1), .val (.int ((n * (own_pow (1 : Int32))) + (a * (own_pow (0 : Int32))))), .val (.int (((31 : Int32) * n) + a))] [(.int (1 : Int32))]))
      refine OGo.st (fun _ kz => XS.goto X12.here hx rfl (pc0 := 142) (pc' := 146) rfl (hb hby at_142) (by decide) (by decide) kz) ?_
      show OGo p.tables e below Φ (T12.setTop (mkF m 146 #[.val (.int n), .val (.int a), .val (.int b), .val (.int d), .val (.int e_), .val (.int c_), .val (.int (1 : Int32)), .val (.ref b1), .val (.int ((n * (own_pow (1 : Int32))) + (a * (own_pow (0 : Int32))))), .val (.int (((31 : Int32) * n) + a))] [(.int (1 : Int32))]))
      refine OGo.fin X12 hlk (v := (some (.int (1 : Int32)))) (fun h => by rw [hret] at h; cases h) (by decide) (by decide) (fun fs hr => X12.ireturnOut hx hret rfl (by simp) (hb hby at_146) hr) fun U eU hF => hΦ _ _ _ ?_ hF
      rw [eU, e12]
      show Q_rm0 Z n a b d e_ c_ h0 n0 _ _ _
      exact ⟨rfl, N12⟩
    · refine OGo.st (fun _ kz => XS.icmpYes X12.here hx rfl (pc0 := 138) (pc' := 145) rfl (hb hby at_138) rfl (XT.ii_ne_t hc13) (by decide) (by decide) kz) ?_
      show OGo p.tables e below Φ (T12.setTop (mkF m 145 #[.val (.int n), .val (.int a), .val (.int b), .val (.int d), .val (.int e_), .val (.int c_), .val (.int (1 : Int32)), .val (.ref b1), .val (.int ((n * (own_pow (1 : Int32))) + (a * (own_pow (0 : Int32))))), .val (.int (((31 : Int32) * n) + a))] []))
      refine OGo.st (fun _ kz => XS.iconst X12.here hx rfl (hb hby at_145) kz) ?_
      show OGo p.tables e below Φ (T12.setTop (mkF m 146 #[.val (.int n), .val (.int a), .val (.int b), .val (.int d), .val (.int e_), .val (.int c_), .val (.int (1 : Int32)), .val (.ref b1), .val (.int ((n * (own_pow (1 : Int32))) + (a * (own_pow (0 : Int32))))), .val (.int (((31 : Int32) * n) + a))] [(.int (0 : Int32))]))
      exact absurd (by simp only [own_pow0, own_pow1, own_pow2, own_pow3, own_pow4]; grind) hc13
  · rw [hk6]
    show OGo p.tables e below Φ (T5.setTop (mkF m 35 #[.val (.int n), .val (.int a), .val (.int b), .val (.int d), .val (.int e_), .val (.int c_), .val (.int (2 : Int32)), .val (.ref b1), .unset, .unset] []))
    refine OGo.st (fun _ kz => XS.iloadN X5.here hx rfl (hb hby at_35) rfl kz) ?_
    show OGo p.tables e below Φ (T5.setTop (mkF m 36 #[.val (.int n), .val (.int a), .val (.int b), .val (.int d), .val (.int e_), .val (.int c_), .val (.int (2 : Int32)), .val (.ref b1), .unset, .unset] [(.int n)]))
    refine OGo.st (fun _ kz => XS.iload X5.here hx rfl (hb hby at_36) rfl kz) ?_
    show OGo p.tables e below Φ (T5.setTop (mkF m 38 #[.val (.int n), .val (.int a), .val (.int b), .val (.int d), .val (.int e_), .val (.int c_), .val (.int (2 : Int32)), .val (.ref b1), .unset, .unset] [(.int (2 : Int32)), (.int n)]))
    obtain ⟨_, T14, L14, X14, hQ14, st14⟩ := own_callSt X5 hx hZ hown (ow2 hw) (ow3 hw) (ow4 hw) (ow5 hw) (by decide) (rm1 l Z a0 hw [] (2 : Int32) h5 n0 Zs5 ) e5 (W := 1) (by decide) (by decide) (by decide) (by decide) (pc := 38) (ls := #[.val (.int n), .val (.int a), .val (.int b), .val (.int d), .val (.int e_), .val (.int c_), .val (.int (2 : Int32)), .val (.ref b1), .unset, .unset]) (stk := [(.int (2 : Int32)), (.int n)]) (by rw [hml]; rfl) (argsL := [(.int (2 : Int32))]) (rest := [(.int n)]) (lenOf pd0 rfl) rfl rfl (Nat.le_of_eq rfl) (hb hby at_38)
    obtain ⟨rfl, Nq14, e14⟩ := hQ14
    have N14 := Fr.app N5 Nq14
    refine OGo.st st14 ?_
    show OGo p.tables e below Φ (T14.setTop (mkF m 41 #[.val (.int n), .val (.int a), .val (.int b), .val (.int d), .val (.int e_), .val (.int c_), .val (.int (2 : Int32)), .val (.ref b1), .unset, .unset] [(.int (own_pow (2 : Int32))), (.int n)]))
    refine OGo.st (fun _ kz => XS.imul X14.here hx rfl (hb hby at_41) rfl kz) ?_
    show OGo p.tables e below Φ (T14.setTop (mkF m 42 #[.val (.int n), .val (.int a), .val (.int b), .val (.int d), .val (.int e_), .val (.int c_), .val (.int (2 : Int32)), .val (.ref b1), .unset, .unset] [(.int (n * (own_pow (2 : Int32))))]))
    refine OGo.st (fun _ kz => XS.istore X14.here hx rfl (hb hby at_42) rfl (l' := #[.val (.int n), .val (.int a), .val (.int b), .val (.int d), .val (.int e_), .val (.int c_), .val (.int (2 : Int32)), .val (.ref b1), .val (.int (n * (own_pow (2 : Int32)))), .unset]) rfl kz) ?_
    show OGo p.tables e below Φ (T14.setTop (mkF m 44 #[.val (.int n), .val (.int a), .val (.int b), .val (.int d), .val (.int e_), .val (.int c_), .val (.int (2 : Int32)), .val (.ref b1), .val (.int (n * (own_pow (2 : Int32)))), .unset] []))
    refine OGo.st (fun _ kz => XS.iload X14.here hx rfl (hb hby at_44) rfl kz) ?_
    show OGo p.tables e below Φ (T14.setTop (mkF m 46 #[.val (.int n), .val (.int a), .val (.int b), .val (.int d), .val (.int e_), .val (.int c_), .val (.int (2 : Int32)), .val (.ref b1), .val (.int (n * (own_pow (2 : Int32)))), .unset] [(.int (2 : Int32))]))
    refine OGo.st (fun _ kz => XS.ifNo X14.here hx rfl (hb hby at_46) rfl (XT.i0_le_f (by decide)) kz) ?_
    show OGo p.tables e below Φ (T14.setTop (mkF m 49 #[.val (.int n), .val (.int a), .val (.int b), .val (.int d), .val (.int e_), .val (.int c_), .val (.int (2 : Int32)), .val (.ref b1), .val (.int (n * (own_pow (2 : Int32)))), .unset] []))
    refine OGo.st (fun _ kz => XS.iload X14.here hx rfl (hb hby at_49) rfl kz) ?_
    show OGo p.tables e below Φ (T14.setTop (mkF m 51 #[.val (.int n), .val (.int a), .val (.int b), .val (.int d), .val (.int e_), .val (.int c_), .val (.int (2 : Int32)), .val (.ref b1), .val (.int (n * (own_pow (2 : Int32)))), .unset] [(.int (n * (own_pow (2 : Int32))))]))
    refine OGo.st (fun _ kz => XS.iloadN X14.here hx rfl (hb hby at_51) rfl kz) ?_
    show OGo p.tables e below Φ (T14.setTop (mkF m 52 #[.val (.int n), .val (.int a), .val (.int b), .val (.int d), .val (.int e_), .val (.int c_), .val (.int (2 : Int32)), .val (.ref b1), .val (.int (n * (own_pow (2 : Int32)))), .unset] [(.int a), (.int (n * (own_pow (2 : Int32))))]))
    refine OGo.st (fun _ kz => XS.iload X14.here hx rfl (hb hby at_52) rfl kz) ?_
    show OGo p.tables e below Φ (T14.setTop (mkF m 54 #[.val (.int n), .val (.int a), .val (.int b), .val (.int d), .val (.int e_), .val (.int c_), .val (.int (2 : Int32)), .val (.ref b1), .val (.int (n * (own_pow (2 : Int32)))), .unset] [(.int (2 : Int32)), (.int a), (.int (n * (own_pow (2 : Int32))))]))
    refine OGo.st (fun _ kz => XS.iconst X14.here hx rfl (hb hby at_54) kz) ?_
    show OGo p.tables e below Φ (T14.setTop (mkF m 55 #[.val (.int n), .val (.int a), .val (.int b), .val (.int d), .val (.int e_), .val (.int c_), .val (.int (2 : Int32)), .val (.ref b1), .val (.int (n * (own_pow (2 : Int32)))), .unset] [(.int (1 : Int32)), (.int (2 : Int32)), (.int a), (.int (n * (own_pow (2 : Int32))))]))
    refine OGo.st (fun _ kz => XS.isub X14.here hx rfl (hb hby at_55) rfl kz) ?_
    show OGo p.tables e below Φ (T14.setTop (mkF m 56 #[.val (.int n), .val (.int a), .val (.int b), .val (.int d), .val (.int e_), .val (.int c_), .val (.int (2 : Int32)), .val (.ref b1), .val (.int (n * (own_pow (2 : Int32)))), .unset] [(.int (1 : Int32)), (.int a), (.int (n * (own_pow (2 : Int32))))]))
    obtain ⟨_, T15, L15, X15, hQ15, st15⟩ := own_callSt X14 hx hZ hown (ow2 hw) (ow3 hw) (ow4 hw) (ow5 hw) (by decide) (rm1 l Z a0 hw [] (1 : Int32) h5 n0 Zs5 ) e14 (W := 2) (by decide) (by decide) (by decide) (by decide) (pc := 56) (ls := #[.val (.int n), .val (.int a), .val (.int b), .val (.int d), .val (.int e_), .val (.int c_), .val (.int (2 : Int32)), .val (.ref b1), .val (.int (n * (own_pow (2 : Int32)))), .unset]) (stk := [(.int (1 : Int32)), (.int a), (.int (n * (own_pow (2 : Int32))))]) (by rw [hml]; rfl) (argsL := [(.int (1 : Int32))]) (rest := [(.int a), (.int (n * (own_pow (2 : Int32))))]) (lenOf pd0 rfl) rfl rfl (Nat.le_of_eq rfl) (hb hby at_56)
    obtain ⟨rfl, Nq15, e15⟩ := hQ15
    have N15 := Fr.app N14 Nq15
    refine OGo.st st15 ?_
    show OGo p.tables e below Φ (T15.setTop (mkF m 59 #[.val (.int n), .val (.int a), .val (.int b), .val (.int d), .val (.int e_), .val (.int c_), .val (.int (2 : Int32)), .val (.ref b1), .val (.int (n * (own_pow (2 : Int32)))), .unset] [(.int (own_pow (1 : Int32))), (.int a), (.int (n * (own_pow (2 : Int32))))]))
    refine OGo.st (fun _ kz => XS.imul X15.here hx rfl (hb hby at_59) rfl kz) ?_
    show OGo p.tables e below Φ (T15.setTop (mkF m 60 #[.val (.int n), .val (.int a), .val (.int b), .val (.int d), .val (.int e_), .val (.int c_), .val (.int (2 : Int32)), .val (.ref b1), .val (.int (n * (own_pow (2 : Int32)))), .unset] [(.int (a * (own_pow (1 : Int32)))), (.int (n * (own_pow (2 : Int32))))]))
    refine OGo.st (fun _ kz => XS.iadd X15.here hx rfl (hb hby at_60) rfl kz) ?_
    show OGo p.tables e below Φ (T15.setTop (mkF m 61 #[.val (.int n), .val (.int a), .val (.int b), .val (.int d), .val (.int e_), .val (.int c_), .val (.int (2 : Int32)), .val (.ref b1), .val (.int (n * (own_pow (2 : Int32)))), .unset] [(.int ((n * (own_pow (2 : Int32))) + (a * (own_pow (1 : Int32)))))]))
    refine OGo.st (fun _ kz => XS.istore X15.here hx rfl (hb hby at_61) rfl (l' := #[.val (.int n), .val (.int a), .val (.int b), .val (.int d), .val (.int e_), .val (.int c_), .val (.int (2 : Int32)), .val (.ref b1), .val (.int ((n * (own_pow (2 : Int32))) + (a * (own_pow (1 : Int32))))), .unset]) rfl kz) ?_
    show OGo p.tables e below Φ (T15.setTop (mkF m 63 #[.val (.int n), .val (.int a), .val (.int b), .val (.int d), .val (.int e_), .val (.int c_), .val (.int (2 : Int32)), .val (.ref b1), .val (.int ((n * (own_pow (2 : Int32))) + (a * (own_pow (1 : Int32))))), .unset] []))
    refine OGo.st (fun _ kz => XS.iload X15.here hx rfl (hb hby at_63) rfl kz) ?_
    show OGo p.tables e below Φ (T15.setTop (mkF m 65 #[.val (.int n), .val (.int a), .val (.int b), .val (.int d), .val (.int e_), .val (.int c_), .val (.int (2 : Int32)), .val (.ref b1), .val (.int ((n * (own_pow (2 : Int32))) + (a * (own_pow (1 : Int32))))), .unset] [(.int (2 : Int32))]))
    refine OGo.st (fun _ kz => XS.iconst X15.here hx rfl (hb hby at_65) kz) ?_
    show OGo p.tables e below Φ (T15.setTop (mkF m 66 #[.val (.int n), .val (.int a), .val (.int b), .val (.int d), .val (.int e_), .val (.int c_), .val (.int (2 : Int32)), .val (.ref b1), .val (.int ((n * (own_pow (2 : Int32))) + (a * (own_pow (1 : Int32))))), .unset] [(.int (1 : Int32)), (.int (2 : Int32))]))
    refine OGo.st (fun _ kz => XS.icmpNo X15.here hx rfl (hb hby at_66) rfl (XT.ii_le_f (by decide)) kz) ?_
    show OGo p.tables e below Φ (T15.setTop (mkF m 69 #[.val (.int n), .val (.int a), .val (.int b), .val (.int d), .val (.int e_), .val (.int c_), .val (.int (2 : Int32)), .val (.ref b1), .val (.int ((n * (own_pow (2 : Int32))) + (a * (own_pow (1 : Int32))))), .unset] []))
    refine OGo.st (fun _ kz => XS.iload X15.here hx rfl (hb hby at_69) rfl kz) ?_
    show OGo p.tables e below Φ (T15.setTop (mkF m 71 #[.val (.int n), .val (.int a), .val (.int b), .val (.int d), .val (.int e_), .val (.int c_), .val (.int (2 : Int32)), .val (.ref b1), .val (.int ((n * (own_pow (2 : Int32))) + (a * (own_pow (1 : Int32))))), .unset] [(.int ((n * (own_pow (2 : Int32))) + (a * (own_pow (1 : Int32)))))]))
    refine OGo.st (fun _ kz => XS.iloadN X15.here hx rfl (hb hby at_71) rfl kz) ?_
    show OGo p.tables e below Φ (T15.setTop (mkF m 72 #[.val (.int n), .val (.int a), .val (.int b), .val (.int d), .val (.int e_), .val (.int c_), .val (.int (2 : Int32)), .val (.ref b1), .val (.int ((n * (own_pow (2 : Int32))) + (a * (own_pow (1 : Int32))))), .unset] [(.int b), (.int ((n * (own_pow (2 : Int32))) + (a * (own_pow (1 : Int32)))))]))
    refine OGo.st (fun _ kz => XS.iload X15.here hx rfl (hb hby at_72) rfl kz) ?_
    show OGo p.tables e below Φ (T15.setTop (mkF m 74 #[.val (.int n), .val (.int a), .val (.int b), .val (.int d), .val (.int e_), .val (.int c_), .val (.int (2 : Int32)), .val (.ref b1), .val (.int ((n * (own_pow (2 : Int32))) + (a * (own_pow (1 : Int32))))), .unset] [(.int (2 : Int32)), (.int b), (.int ((n * (own_pow (2 : Int32))) + (a * (own_pow (1 : Int32)))))]))
    refine OGo.st (fun _ kz => XS.iconst X15.here hx rfl (hb hby at_74) kz) ?_
    show OGo p.tables e below Φ (T15.setTop (mkF m 75 #[.val (.int n), .val (.int a), .val (.int b), .val (.int d), .val (.int e_), .val (.int c_), .val (.int (2 : Int32)), .val (.ref b1), .val (.int ((n * (own_pow (2 : Int32))) + (a * (own_pow (1 : Int32))))), .unset] [(.int (2 : Int32)), (.int (2 : Int32)), (.int b), (.int ((n * (own_pow (2 : Int32))) + (a * (own_pow (1 : Int32)))))]))
    refine OGo.st (fun _ kz => XS.isub X15.here hx rfl (hb hby at_75) rfl kz) ?_
    show OGo p.tables e below Φ (T15.setTop (mkF m 76 #[.val (.int n), .val (.int a), .val (.int b), .val (.int d), .val (.int e_), .val (.int c_), .val (.int (2 : Int32)), .val (.ref b1), .val (.int ((n * (own_pow (2 : Int32))) + (a * (own_pow (1 : Int32))))), .unset] [(.int (0 : Int32)), (.int b), (.int ((n * (own_pow (2 : Int32))) + (a * (own_pow (1 : Int32)))))]))
    obtain ⟨_, T16, L16, X16, hQ16, st16⟩ := own_callSt X15 hx hZ hown (ow2 hw) (ow3 hw) (ow4 hw) (ow5 hw) (by decide) (rm1 l Z a0 hw [] (0 : Int32) h5 n0 Zs5 ) e15 (W := 2) (by decide) (by decide) (by decide) (by decide) (pc := 76) (ls := #[.val (.int n), .val (.int a), .val (.int b), .val (.int d), .val (.int e_), .val (.int c_), .val (.int (2 : Int32)), .val (.ref b1), .val (.int ((n * (own_pow (2 : Int32))) + (a * (own_pow (1 : Int32))))), .unset]) (stk := [(.int (0 : Int32)), (.int b), (.int ((n * (own_pow (2 : Int32))) + (a * (own_pow (1 : Int32)))))]) (by rw [hml]; rfl) (argsL := [(.int (0 : Int32))]) (rest := [(.int b), (.int ((n * (own_pow (2 : Int32))) + (a * (own_pow (1 : Int32)))))]) (lenOf pd0 rfl) rfl rfl (Nat.le_of_eq rfl) (hb hby at_76)
    obtain ⟨rfl, Nq16, e16⟩ := hQ16
    have N16 := Fr.app N15 Nq16
    refine OGo.st st16 ?_
    show OGo p.tables e below Φ (T16.setTop (mkF m 79 #[.val (.int n), .val (.int a), .val (.int b), .val (.int d), .val (.int e_), .val (.int c_), .val (.int (2 : Int32)), .val (.ref b1), .val (.int ((n * (own_pow (2 : Int32))) + (a * (own_pow (1 : Int32))))), .unset] [(.int (own_pow (0 : Int32))), (.int b), (.int ((n * (own_pow (2 : Int32))) + (a * (own_pow (1 : Int32)))))]))
    refine OGo.st (fun _ kz => XS.imul X16.here hx rfl (hb hby at_79) rfl kz) ?_
    show OGo p.tables e below Φ (T16.setTop (mkF m 80 #[.val (.int n), .val (.int a), .val (.int b), .val (.int d), .val (.int e_), .val (.int c_), .val (.int (2 : Int32)), .val (.ref b1), .val (.int ((n * (own_pow (2 : Int32))) + (a * (own_pow (1 : Int32))))), .unset] [(.int (b * (own_pow (0 : Int32)))), (.int ((n * (own_pow (2 : Int32))) + (a * (own_pow (1 : Int32)))))]))
    refine OGo.st (fun _ kz => XS.iadd X16.here hx rfl (hb hby at_80) rfl kz) ?_
    show OGo p.tables e below Φ (T16.setTop (mkF m 81 #[.val (.int n), .val (.int a), .val (.int b), .val (.int d), .val (.int e_), .val (.int c_), .val (.int (2 : Int32)), .val (.ref b1), .val (.int ((n * (own_pow (2 : Int32))) + (a * (own_pow (1 : Int32))))), .unset] [(.int (((n * (own_pow (2 : Int32))) + (a * (own_pow (1 : Int32)))) + (b * (own_pow (0 : Int32)))))]))
    refine OGo.st (fun _ kz => XS.istore X16.here hx rfl (hb hby at_81) rfl (l' := #[.val (.int n), .val (.int a), .val (.int b), .val (.int d), .val (.int e_), .val (.int c_), .val (.int (2 : Int32)), .val (.ref b1), .val (.int (((n * (own_pow (2 : Int32))) + (a * (own_pow (1 : Int32)))) + (b * (own_pow (0 : Int32))))), .unset]) rfl kz) ?_
    show OGo p.tables e below Φ (T16.setTop (mkF m 83 #[.val (.int n), .val (.int a), .val (.int b), .val (.int d), .val (.int e_), .val (.int c_), .val (.int (2 : Int32)), .val (.ref b1), .val (.int (((n * (own_pow (2 : Int32))) + (a * (own_pow (1 : Int32)))) + (b * (own_pow (0 : Int32))))), .unset] []))
    refine OGo.st (fun _ kz => XS.iload X16.here hx rfl (hb hby at_83) rfl kz) ?_
    show OGo p.tables e below Φ (T16.setTop (mkF m 85 #[.val (.int n), .val (.int a), .val (.int b), .val (.int d), .val (.int e_), .val (.int c_), .val (.int (2 : Int32)), .val (.ref b1), .val (.int (((n * (own_pow (2 : Int32))) + (a * (own_pow (1 : Int32)))) + (b * (own_pow (0 : Int32))))), .unset] [(.int (2 : Int32))]))
    refine OGo.st (fun _ kz => XS.iconst X16.here hx rfl (hb hby at_85) kz) ?_
    show OGo p.tables e below Φ (T16.setTop (mkF m 86 #[.val (.int n), .val (.int a), .val (.int b), .val (.int d), .val (.int e_), .val (.int c_), .val (.int (2 : Int32)), .val (.ref b1), .val (.int (((n * (own_pow (2 : Int32))) + (a * (own_pow (1 : Int32)))) + (b * (own_pow (0 : Int32))))), .unset] [(.int (2 : Int32)), (.int (2 : Int32))]))
    refine OGo.st (fun _ kz => XS.icmpYes X16.here hx rfl (pc0 := 86) (pc' := 103) rfl (hb hby at_86) rfl (XT.ii_le_t (by decide)) (by decide) (by decide) kz) ?_
    show OGo p.tables e below Φ (T16.setTop (mkF m 103 #[.val (.int n), .val (.int a), .val (.int b), .val (.int d), .val (.int e_), .val (.int c_), .val (.int (2 : Int32)), .val (.ref b1), .val (.int (((n * (own_pow (2 : Int32))) + (a * (own_pow (1 : Int32)))) + (b * (own_pow (0 : Int32))))), .unset] []))
    refine OGo.st (fun _ kz => XS.iload X16.here hx rfl (hb hby at_103) rfl kz) ?_
    show OGo p.tables e below Φ (T16.setTop (mkF m 105 #[.val (.int n), .val (.int a), .val (.int b), .val (.int d), .val (.int e_), .val (.int c_), .val (.int (2 : Int32)), .val (.ref b1), .val (.int (((n * (own_pow (2 : Int32))) + (a * (own_pow (1 : Int32)))) + (b * (own_pow (0 : Int32))))), .unset] [(.int (2 : Int32))]))
    refine OGo.st (fun _ kz => XS.iconst X16.here hx rfl (hb hby at_105) kz) ?_
    show OGo p.tables e below Φ (T16.setTop (mkF m 106 #[.val (.int n), .val (.int a), .val (.int b), .val (.int d), .val (.int e_), .val (.int c_), .val (.int (2 : Int32)), .val (.ref b1), .val (.int (((n * (own_pow (2 : Int32))) + (a * (own_pow (1 : Int32)))) + (b * (own_pow (0 : Int32))))), .unset] [(.int (3 : Int32)), (.int (2 : Int32))]))
    refine OGo.st (fun _ kz => XS.icmpYes X16.here hx rfl (pc0 := 106) (pc' := 124) rfl (hb hby at_106) rfl (XT.ii_le_t (by decide)) (by decide) (by decide) kz) ?_
    show OGo p.tables e below Φ (T16.setTop (mkF m 124 #[.val (.int n), .val (.int a), .val (.int b), .val (.int d), .val (.int e_), .val (.int c_), .val (.int (2 : Int32)), .val (.ref b1), .val (.int (((n * (own_pow (2 : Int32))) + (a * (own_pow (1 : Int32)))) + (b * (own_pow (0 : Int32))))), .unset] []))
    refine OGo.st (fun _ kz => XS.iloadN X16.here hx rfl (hb hby at_124) rfl kz) ?_
    show OGo p.tables e below Φ (T16.setTop (mkF m 125 #[.val (.int n), .val (.int a), .val (.int b), .val (.int d), .val (.int e_), .val (.int c_), .val (.int (2 : Int32)), .val (.ref b1), .val (.int (((n * (own_pow (2 : Int32))) + (a * (own_pow (1 : Int32)))) + (b * (own_pow (0 : Int32))))), .unset] [(.int n)]))
    refine OGo.st (fun _ kz => XS.aload X16.here hx rfl (hb hby at_125) rfl rfl kz) ?_
    show OGo p.tables e below Φ (T16.setTop (mkF m 127 #[.val (.int n), .val (.int a), .val (.int b), .val (.int d), .val (.int e_), .val (.int c_), .val (.int (2 : Int32)), .val (.ref b1), .val (.int (((n * (own_pow (2 : Int32))) + (a * (own_pow (1 : Int32)))) + (b * (own_pow (0 : Int32))))), .unset] [(.ref b1), (.int n)]))
    refine OGo.st (fun _ kz => XS.iload X16.here hx rfl (hb hby at_127) rfl kz) ?_
    show OGo p.tables e below Φ (T16.setTop (mkF m 129 #[.val (.int n), .val (.int a), .val (.int b), .val (.int d), .val (.int e_), .val (.int c_), .val (.int (2 : Int32)), .val (.ref b1), .val (.int (((n * (own_pow (2 : Int32))) + (a * (own_pow (1 : Int32)))) + (b * (own_pow (0 : Int32))))), .unset] [(.int (2 : Int32)), (.ref b1), (.int n)]))
    obtain ⟨_, T17, L17, X17, hQ17, st17⟩ := own_callSt X16 hx hZ hown (ow6 hw) (ow7 hw) (ow8 hw) (ow9 hw) (by decide) (rm2_2 l Z a0 hw [] n b1 c1 a b d e_ h5 n0 Zs5 V5) e16 (W := 0) (by decide) (by decide) (by decide) (by decide) (pc := 129) (ls := #[.val (.int n), .val (.int a), .val (.int b), .val (.int d), .val (.int e_), .val (.int c_), .val (.int (2 : Int32)), .val (.ref b1), .val (.int (((n * (own_pow (2 : Int32))) + (a * (own_pow (1 : Int32)))) + (b * (own_pow (0 : Int32))))), .unset]) (stk := [(.int (2 : Int32)), (.ref b1), (.int n)]) (by rw [hml]; rfl) (argsL := [(.int n), (.ref b1), (.int (2 : Int32))]) (rest := []) (lenOf pd1 rfl) rfl rfl (Nat.le_of_eq rfl) (hb hby at_129)
    obtain ⟨rfl, Nq17, e17⟩ := hQ17
    have N17 := Fr.app N16 Nq17
    refine OGo.st st17 ?_
    show OGo p.tables e below Φ (T17.setTop (mkF m 132 #[.val (.int n), .val (.int a), .val (.int b), .val (.int d), .val (.int e_), .val (.int c_), .val (.int (2 : Int32)), .val (.ref b1), .val (.int (((n * (own_pow (2 : Int32))) + (a * (own_pow (1 : Int32)))) + (b * (own_pow (0 : Int32))))), .unset] [(.int (((31 : Int32) * (((31 : Int32) * n) + a)) + b))]))
    refine OGo.st (fun _ kz => XS.istore X17.here hx rfl (hb hby at_132) rfl (l' := #[.val (.int n), .val (.int a), .val (.int b), .val (.int d), .val (.int e_), .val (.int c_), .val (.int (2 : Int32)), .val (.ref b1), .val (.int (((n * (own_pow (2 : Int32))) + (a * (own_pow (1 : Int32)))) + (b * (own_pow (0 : Int32))))), .val (.int (((31 : Int32) * (((31 : Int32) * n) + a)) + b))]) rfl kz) ?_
    show OGo p.tables e below Φ (T17.setTop (mkF m 134 #[.val (.int n), .val (.int a), .val (.int b), .val (.int d), .val (.int e_), .val (.int c_), .val (.int (2 : Int32)), .val (.ref b1), .val (.int (((n * (own_pow (2 : Int32))) + (a * (own_pow (1 : Int32)))) + (b * (own_pow (0 : Int32))))), .val (.int (((31 : Int32) * (((31 : Int32) * n) + a)) + b))] []))
    refine OGo.st (fun _ kz => XS.iload X17.here hx rfl (hb hby at_134) rfl kz) ?_
    show OGo p.tables e below Φ (T17.setTop (mkF m 136 #[.val (.int n), .val (.int a), .val (.int b), .val (.int d), .val (.int e_), .val (.int c_), .val (.int (2 : Int32)), .val (.ref b1), .val (.int (((n * (own_pow (2 : Int32))) + (a * (own_pow (1 : Int32)))) + (b * (own_pow (0 : Int32))))), .val (.int (((31 : Int32) * (((31 : Int32) * n) + a)) + b))] [(.int (((31 : Int32) * (((31 : Int32) * n) + a)) + b))]))
    refine OGo.st (fun _ kz => XS.iload X17.here hx rfl (hb hby at_136) rfl kz) ?_
    show OGo p.tables e below Φ (T17.setTop (mkF m 138 #[.val (.int n), .val (.int a), .val (.int b), .val (.int d), .val (.int e_), .val (.int c_), .val (.int (2 : Int32)), .val (.ref b1), .val (.int (((n * (own_pow (2 : Int32))) + (a * (own_pow (1 : Int32)))) + (b * (own_pow (0 : Int32))))), .val (.int (((31 : Int32) * (((31 : Int32) * n) + a)) + b))] [(.int (((n * (own_pow (2 : Int32))) + (a * (own_pow (1 : Int32)))) + (b * (own_pow (0 : Int32))))), (.int (((31 : Int32) * (((31 : Int32) * n) + a)) + b))]))
    by_cases hc18 : (((31 : Int32) * (((31 : Int32) * n) + a)) + b) = (((n * (own_pow (2 : Int32))) + (a * (own_pow (1 : Int32)))) + (b * (own_pow (0 : Int32))))
    · refine OGo.st (fun _ kz => XS.icmpNo X17.here hx rfl (hb hby at_138) rfl (XT.ii_ne_f hc18) kz) ?_
      show OGo p.tables e below Φ (T17.setTop (mkF m 141 #[.val (.int n), .val (.int a), .val (.int b), .val (.int d), .val (.int e_), .val (.int c_), .val (.int (2 : Int32)), .val (.ref b1), .val (.int (((n * (own_pow (2 : Int32))) + (a * (own_pow (1 : Int32)))) + (b * (own_pow (0 : Int32))))), .val (.int (((31 : Int32) * (((31 : Int32) * n) + a)) + b))] []))
      refine OGo.st (fun _ kz => XS.iconst X17.here hx rfl (hb hby at_141) kz) ?_
      show OGo p.tables e below Φ (T17.setTop (mkF m 142 #[.val (.int n), .val (.int a), .val (.int b), .val (.int d), .val (.int e_), .val (.int c_), .val (.int (2 : Int32)), .val (.ref b1), .val (.int (((n * (own_pow (2 : Int32))) + (a * (own_pow (1 : Int32)))) + (b * (own_pow (0 : Int32))))), .val (.int (((31 : Int32) * (((31 : Int32) * n) + a)) + b))] [(.int (1 : Int32))]))
      refine OGo.st (fun _ kz => XS.goto X17.here hx rfl (pc0 := 142) (pc' := 146) rfl (hb hby at_142) (by decide) (by decide) kz) ?_
      show OGo p.tables e below Φ (T17.setTop (mkF m 146 #[.val (.int n), .val (.int a), .val (.int b), .val (.int d), .val (.int e_), .val (.int c_), .val (.int (2 : Int32)), .val (.ref b1), .val (.int (((n * (own_pow (2 : Int32))) + (a * (own_pow (1 : Int32)))) + (b * (own_pow (0 : Int32))))), .val (.int (((31 : Int32) * (((31 : Int32) * n) + a)) + b))] [(.int (1 : Int32))]))
      refine OGo.fin X17 hlk (v := (some (.int (1 : Int32)))) (fun h => by rw [hret] at h; cases h) (by decide) (by decide) (fun fs hr => X17.ireturnOut hx hret rfl (by simp) (hb hby at_146) hr) fun U eU hF => hΦ _ _ _ ?_ hF
      rw [eU, e17]
      show Q_rm0 Z n a b d e_ c_ h0 n0 _ _ _
      exact ⟨rfl, N17⟩
    · refine OGo.st (fun _ kz => XS.icmpYes X17.here hx rfl (pc0 := 138) (pc' := 145) rfl (hb hby at_138) rfl (XT.ii_ne_t hc18) (by decide) (by decide) kz) ?_
      show OGo p.tables e below Φ (T17.setTop (mkF m 145 #[.val (.int n), .val (.int a), .val (.int b), .val (.int d), .val (.int e_), .val (.int c_), .val (.int (2 : Int32)), .val (.ref b1), .val (.int (((n * (own_pow (2 : Int32))) + (a * (own_pow (1 : Int32)))) + (b * (own_pow (0 : Int32))))), .val (.int (((31 : Int32) * (((31 : Int32) * n) + a)) + b))] []))
      refine OGo.st (fun _ kz => XS.iconst X17.here hx rfl (hb hby at_145) kz) ?_
      show OGo p.tables e below Φ (T17.setTop (mkF m 146 #[.val (.int n), .val (.int a), .val (.int b), .val (.int d), .val (.int e_), .val (.int c_), .val (.int (2 : Int32)), .val (.ref b1), .val (.int (((n * (own_pow (2 : Int32))) + (a * (own_pow (1 : Int32)))) + (b * (own_pow (0 : Int32))))), .val (.int (((31 : Int32) * (((31 : Int32) * n) + a)) + b))] [(.int (0 : Int32))]))
      exact absurd (by simp only [own_pow0, own_pow1, own_pow2, own_pow3, own_pow4]; grind) hc18
  · rw [hk6]
    show OGo p.tables e below Φ (T5.setTop (mkF m 35 #[.val (.int n), .val (.int a), .val (.int b), .val (.int d), .val (.int e_), .val (.int c_), .val (.int (3 : Int32)), .val (.ref b1), .unset, .unset] []))
    refine OGo.st (fun _ kz => XS.iloadN X5.here hx rfl (hb hby at_35) rfl kz) ?_
    show OGo p.tables e below Φ (T5.setTop (mkF m 36 #[.val (.int n), .val (.int a), .val (.int b), .val (.int d), .val (.int e_), .val (.int c_), .val (.int (3 : Int32)), .val (.ref b1), .unset, .unset] [(.int n)]))
    refine OGo.st (fun _ kz => XS.iload X5.here hx rfl (hb hby at_36) rfl kz) ?_
    show OGo p.tables e below Φ (T5.setTop (mkF m 38 #[.val (.int n), .val (.int a), .val (.int b), .val (.int d), .val (.int e_), .val (.int c_), .val (.int (3 : Int32)), .val (.ref b1), .unset, .unset] [(.int (3 : Int32)), (.int n)]))
    obtain ⟨_, T19, L19, X19, hQ19, st19⟩ := own_callSt X5 hx hZ hown (ow2 hw) (ow3 hw) (ow4 hw) (ow5 hw) (by decide) (rm1 l Z a0 hw [] (3 : Int32) h5 n0 Zs5 ) e5 (W := 1) (by decide) (by decide) (by decide) (by decide) (pc := 38) (ls := #[.val (.int n), .val (.int a), .val (.int b), .val (.int d), .val (.int e_), .val (.int c_), .val (.int (3 : Int32)), .val (.ref b1), .unset, .unset]) (stk := [(.int (3 : Int32)), (.int n)]) (by rw [hml]; rfl) (argsL := [(.int (3 : Int32))]) (rest := [(.int n)]) (lenOf pd0 rfl) rfl rfl (Nat.le_of_eq rfl) (hb hby at_38)
    obtain ⟨rfl, Nq19, e19⟩ := hQ19
    have N19 := Fr.app N5 Nq19
    refine OGo.st st19 ?_
    show OGo p.tables e below Φ (T19.setTop (mkF m 41 #[.val (.int n), .val (.int a), .val (.int b), .val (.int d), .val (.int e_), .val (.int c_), .val (.int (3 : Int32)), .val (.ref b1), .unset, .unset] [(.int (own_pow (3 : Int32))), (.int n)]))
    refine OGo.st (fun _ kz => XS.imul X19.here hx rfl (hb hby at_41) rfl kz) ?_
    show OGo p.tables e below Φ (T19.setTop (mkF m 42 #[.val (.int n), .val (.int a), .val (.int b), .val (.int d), .val (.int e_), .val (.int c_), .val (.int (3 : Int32)), .val (.ref b1), .unset, .unset] [(.int (n * (own_pow (3 : Int32))))]))
    refine OGo.st (fun _ kz => XS.istore X19.here hx rfl (hb hby at_42) rfl (l' := #[.val (.int n), .val (.int a), .val (.int b), .val (.int d), .val (.int e_), .val (.int c_), .val (.int (3 : Int32)), .val (.ref b1), .val (.int (n * (own_pow (3 : Int32)))), .unset]) rfl kz) ?_
    show OGo p.tables e below Φ (T19.setTop (mkF m 44 #[.val (.int n), .val (.int a), .val (.int b), .val (.int d), .val (.int e_), .val (.int c_), .val (.int (3 : Int32)), .val (.ref b1), .val (.int (n * (own_pow (3 : Int32)))), .unset] []))
    refine OGo.st (fun _ kz => XS.iload X19.here hx rfl (hb hby at_44) rfl kz) ?_
    show OGo p.tables e below Φ (T19.setTop (mkF m 46 #[.val (.int n), .val (.int a), .val (.int b), .val (.int d), .val (.int e_), .val (.int c_), .val (.int (3 : Int32)), .val (.ref b1), .val (.int (n * (own_pow (3 : Int32)))), .unset] [(.int (3 : Int32))]))
    refine OGo.st (fun _ kz => XS.ifNo X19.here hx rfl (hb hby at_46) rfl (XT.i0_le_f (by decide)) kz) ?_
    show OGo p.tables e below Φ (T19.setTop (mkF m 49 #[.val (.int n), .val (.int a), .val (.int b), .val (.int d), .val (.int e_), .val (.int c_), .val (.int (3 : Int32)), .val (.ref b1), .val (.int (n * (own_pow (3 : Int32)))), .unset] []))
    refine OGo.st (fun _ kz => XS.iload X19.here hx rfl (hb hby at_49) rfl kz) ?_
    show OGo p.tables e below Φ (T19.setTop (mkF m 51 #[.val (.int n), .val (.int a), .val (.int b), .val (.int d), .val (.int e_), .val (.int c_), .val (.int (3 : Int32)), .val (.ref b1), .val (.int (n * (own_pow (3 : Int32)))), .unset] [(.int (n * (own_pow (3 : Int32))))]))
    refine OGo.st (fun _ kz => XS.iloadN X19.here hx rfl (hb hby at_51) rfl kz) ?_
    show OGo p.tables e below Φ (T19.setTop (mkF m 52 #[.val (.int n), .val (.int a), .val (.int b), .val (.int d), .val (.int e_), .val (.int c_), .val (.int (3 : Int32)), .val (.ref b1), .val (.int (n * (own_pow (3 : Int32)))), .unset] [(.int a), (.int (n * (own_pow (3 : Int32))))]))
    refine OGo.st (fun _ kz => XS.iload X19.here hx rfl (hb hby at_52) rfl kz) ?_
    show OGo p.tables e below Φ (T19.setTop (mkF m 54 #[.val (.int n), .val (.int a), .val (.int b), .val (.int d), .val (.int e_), .val (.int c_), .val (.int (3 : Int32)), .val (.ref b1), .val (.int (n * (own_pow (3 : Int32)))), .unset] [(.int (3 : Int32)), (.int a), (.int (n * (own_pow (3 : Int32))))]))
    refine OGo.st (fun _ kz => XS.iconst X19.here hx rfl (hb hby at_54) kz) ?_
    show OGo p.tables e below Φ (T19.setTop (mkF m 55 #[.val (.int n), .val (.int a), .val (.int b), .val (.int d), .val (.int e_), .val (.int c_), .val (.int (3 : Int32)), .val (.ref b1), .val (.int (n * (own_pow (3 : Int32)))), .unset] [(.int (1 : Int32)), (.int (3 : Int32)), (.int a), (.int (n * (own_pow (3 : Int32))))]))
    refine OGo.st (fun _ kz => XS.isub X19.here hx rfl (hb hby at_55) rfl kz) ?_
    show OGo p.tables e below Φ (T19.setTop (mkF m 56 #[.val (.int n), .val (.int a), .val (.int b), .val (.int d), .val (.int e_), .val (.int c_), .val (.int (3 : Int32)), .val (.ref b1), .val (.int (n * (own_pow (3 : Int32)))), .unset] [(.int (2 : Int32)), (.int a), (.int (n * (own_pow (3 : Int32))))]))
    obtain ⟨_, T20, L20, X20, hQ20, st20⟩ := own_callSt X19 hx hZ hown (ow2 hw) (ow3 hw) (ow4 hw) (ow5 hw) (by decide) (rm1 l Z a0 hw [] (2 : Int32) h5 n0 Zs5 ) e19 (W := 2) (by decide) (by decide) (by decide) (by decide) (pc := 56) (ls := #[.val (.int n), .val (.int a), .val (.int b), .val (.int d), .val (.int e_), .val (.int c_), .val (.int (3 : Int32)), .val (.ref b1), .val (.int (n * (own_pow (3 : Int32)))), .unset]) (stk := [(.int (2 : Int32)), (.int a), (.int (n * (own_pow (3 : Int32))))]) (by rw [hml]; rfl) (argsL := [(.int (2 : Int32))]) (rest := [(.int a), (.int (n * (own_pow (3 : Int32))))]) (lenOf pd0 rfl) rfl rfl (Nat.le_of_eq rfl) (hb hby at_56)
    obtain ⟨rfl, Nq20, e20⟩ := hQ20
    have N20 := Fr.app N19 Nq20
    refine OGo.st st20 ?_
    show OGo p.tables e below Φ (T20.setTop (mkF m 59 #[.val (.int n), .val (.int a), .val (.int b), .val (.int d), .val (.int e_), .val (.int c_), .val (.int (3 : Int32)), .val (.ref b1), .val (.int (n * (own_pow (3 : Int32)))), .unset] [(.int (own_pow (2 : Int32))), (.int a), (.int (n * (own_pow (3 : Int32))))]))
    refine OGo.st (fun _ kz => XS.imul X20.here hx rfl (hb hby at_59) rfl kz) ?_
    show OGo p.tables e below Φ (T20.setTop (mkF m 60 #[.val (.int n), .val (.int a), .val (.int b), .val (.int d), .val (.int e_), .val (.int c_), .val (.int (3 : Int32)), .val (.ref b1), .val (.int (n * (own_pow (3 : Int32)))), .unset] [(.int (a * (own_pow (2 : Int32)))), (.int (n * (own_pow (3 : Int32))))]))
    refine OGo.st (fun _ kz => XS.iadd X20.here hx rfl (hb hby at_60) rfl kz) ?_
    show OGo p.tables e below Φ (T20.setTop (mkF m 61 #[.val (.int n), .val (.int a), .val (.int b), .val (.int d), .val (.int e_), .val (.int c_), .val (.int (3 : Int32)), .val (.ref b1), .val (.int (n * (own_pow (3 : Int32)))), .unset] [(.int ((n * (own_pow (3 : Int32))) + (a * (own_pow (2 : Int32)))))]))
    refine OGo.st (fun _ kz => XS.istore X20.here hx rfl (hb hby at_61) rfl (l' := #[.val (.int n), .val (.int a), .val (.int b), .val (.int d), .val (.int e_), .val (.int c_), .val (.int (3 : Int32)), .val (.ref b1), .val (.int ((n * (own_pow (3 : Int32))) + (a * (own_pow (2 : Int32))))), .unset]) rfl kz) ?_
    show OGo p.tables e below Φ (T20.setTop (mkF m 63 #[.val (.int n), .val (.int a), .val (.int b), .val (.int d), .val (.int e_), .val (.int c_), .val (.int (3 : Int32)), .val (.ref b1), .val (.int ((n * (own_pow (3 : Int32))) + (a * (own_pow (2 : Int32))))), .unset] []))
    refine OGo.st (fun _ kz => XS.iload X20.here hx rfl (hb hby at_63) rfl kz) ?_
    show OGo p.tables e below Φ (T20.setTop (mkF m 65 #[.val (.int n), .val (.int a), .val (.int b), .val (.int d), .val (.int e_), .val (.int c_), .val (.int (3 : Int32)), .val (.ref b1), .val (.int ((n * (own_pow (3 : Int32))) + (a * (own_pow (2 : Int32))))), .unset] [(.int (3 : Int32))]))
    refine OGo.st (fun _ kz => XS.iconst X20.here hx rfl (hb hby at_65) kz) ?_
    show OGo p.tables e below Φ (T20.setTop (mkF m 66 #[.val (.int n), .val (.int a), .val (.int b), .val (.int d), .val (.int e_), .val (.int c_), .val (.int (3 : Int32)), .val (.ref b1), .val (.int ((n * (own_pow (3 : Int32))) + (a * (own_pow (2 : Int32))))), .unset] [(.int (1 : Int32)), (.int (3 : Int32))]))
    refine OGo.st (fun _ kz => XS.icmpNo X20.here hx rfl (hb hby at_66) rfl (XT.ii_le_f (by decide)) kz) ?_
    show OGo p.tables e below Φ (T20.setTop (mkF m 69 #[.val (.int n), .val (.int a), .val (.int b), .val (.int d), .val (.int e_), .val (.int c_), .val (.int (3 : Int32)), .val (.ref b1), .val (.int ((n * (own_pow (3 : Int32))) + (a * (own_pow (2 : Int32))))), .unset] []))
    refine OGo.st (fun _ kz => XS.iload X20.here hx rfl (hb hby at_69) rfl kz) ?_
    show OGo p.tables e below Φ (T20.setTop (mkF m 71 #[.val (.int n), .val (.int a), .val (.int b), .val (.int d), .val (.int e_), .val (.int c_), .val (.int (3 : Int32)), .val (.ref b1), .val (.int ((n * (own_pow (3 : Int32))) + (a * (own_pow (2 : Int32))))), .unset] [(.int ((n * (own_pow (3 : Int32))) + (a * (own_pow (2 : Int32)))))]))
    refine OGo.st (fun _ kz => XS.iloadN X20.here hx rfl (hb hby at_71) rfl kz) ?_
    show OGo p.tables e below Φ (T20.setTop (mkF m 72 #[.val (.int n), .val (.int a), .val (.int b), .val (.int d), .val (.int e_), .val (.int c_), .val (.int (3 : Int32)), .val (.ref b1), .val (.int ((n * (own_pow (3 : Int32))) + (a * (own_pow (2 : Int32))))), .unset] [(.int b), (.int ((n * (own_pow (3 : Int32))) + (a * (own_pow (2 : Int32)))))]))
    refine OGo.st (fun _ kz => XS.iload X20.here hx rfl (hb hby at_72) rfl kz) ?_
    show OGo p.tables e below Φ (T20.setTop (mkF m 74 #[.val (.int n), .val (.int a), .val (.int b), .val (.int d), .val (.int e_), .val (.int c_), .val (.int (3 : Int32)), .val (.ref b1), .val (.int ((n * (own_pow (3 : Int32))) + (a * (own_pow (2 : Int32))))), .unset] [(.int (3 : Int32)), (.int b), (.int ((n * (own_pow (3 : Int32))) + (a * (own_pow (2 : Int32)))))]))
    refine OGo.st (fun _ kz => XS.iconst X20.here hx rfl (hb hby at_74) kz) ?_
    show OGo p.tables e below Φ (T20.setTop (mkF m 75 #[.val (.int n), .val (.int a), .val (.int b), .val (.int d), .val (.int e_), .val (.int c_), .val (.int (3 : Int32)), .val (.ref b1), .val (.int ((n * (own_pow (3 : Int32))) + (a * (own_pow (2 : Int32))))), .unset] [(.int (2 : Int32)), (.int (3 : Int32)), (.int b), (.int ((n * (own_pow (3 : Int32))) + (a * (own_pow (2 : Int32)))))]))
    refine OGo.st (fun _ kz => XS.isub X20.here hx rfl (hb hby at_75) rfl kz) ?_
    show OGo p.tables e below Φ (T20.setTop (mkF m 76 #[.val (.int n), .val (.int a), .val (.int b), .val (.int d), .val (.int e_), .val (.int c_), .val (.int (3 : Int32)), .val (.ref b1), .val (.int ((n * (own_pow (3 : Int32))) + (a * (own_pow (2 : Int32))))), .unset] [(.int (1 : Int32)), (.int b), (.int ((n * (own_pow (3 : Int32))) + (a * (own_pow (2 : Int32)))))]))
    obtain ⟨_, T21, L21, X21, hQ21, st21⟩ := own_callSt X20 hx hZ hown (ow2 hw) (ow3 hw) (ow4 hw) (ow5 hw) (by decide) (rm1 l Z a0 hw [] (1 : Int32) h5 n0 Zs5 ) e20 (W := 2) (by decide) (by decide) (by decide) (by decide) (pc := 76) (ls := #[.val (.int n), .val (.int a), .val (.int b), .val (.int d), .val (.int e_), .val (.int c_), .val (.int (3 : Int32)), .val (.ref b1), .val (.int ((n * (own_pow (3 : Int32))) + (a * (own_pow (2 : Int32))))), .unset]) (stk := [(.int (1 : Int32)), (.int b), (.int ((n * (own_pow (3 : Int32))) + (a * (own_pow (2 : Int32)))))]) (by rw [hml]; rfl) (argsL := [(.int (1 : Int32))]) (rest := [(.int b), (.int ((n * (own_pow (3 : Int32))) + (a * (own_pow (2 : Int32)))))]) (lenOf pd0 rfl) rfl rfl (Nat.le_of_eq rfl) (hb hby at_76)
    obtain ⟨rfl, Nq21, e21⟩ := hQ21
    have N21 := Fr.app N20 Nq21
    refine OGo.st st21 ?_
    show OGo p.tables e below Φ (T21.setTop (mkF m 79 #[.val (.int n), .val (.int a), .val (.int b), .val (.int d), .val (.int e_), .val (.int c_), .val (.int (3 : Int32)), .val (.ref b1), .val (.int ((n * (own_pow (3 : Int32))) + (a * (own_pow (2 : Int32))))), .unset] [(.int (own_pow (1 : Int32))), (.int b), (.int ((n * (own_pow (3 : Int32))) + (a * (own_pow (2 : Int32)))))]))
    refine OGo.st (fun _ kz => XS.imul X21.here hx rfl (hb hby at_79) rfl kz) ?_
    show OGo p.tables e below Φ (T21.setTop (mkF m 80 #[.val (.int n), .val (.int a), .val (.int b), .val (.int d), .val (.int e_), .val (.int c_), .val (.int (3 : Int32)), .val (.ref b1), .val (.int ((n * (own_pow (3 : Int32))) + (a * (own_pow (2 : Int32))))), .unset] [(.int (b * (own_pow (1 : Int32)))), (.int ((n * (own_pow (3 : Int32))) + (a * (own_pow (2 : Int32)))))]))
    refine OGo.st (fun _ kz => XS.iadd X21.here hx rfl (hb hby at_80) rfl kz) ?_
    show OGo p.tables e below Φ (T21.setTop (mkF m 81 #[.val (.int n), .val (.int a), .val (.int b), .val (.int d), .val (.int e_), .val (.int c_), .val (.int (3 : Int32)), .val (.ref b1), .val (.int ((n * (own_pow (3 : Int32))) + (a * (own_pow (2 : Int32))))), .unset] [(.int (((n * (own_pow (3 : Int32))) + (a * (own_pow (2 : Int32)))) + (b * (own_pow (1 : Int32)))))]))
    refine OGo.st (fun _ kz => XS.istore X21.here hx rfl (hb hby at_81) rfl (l' := #[.val (.int n), .val (.int a), .val (.int b), .val (.int d), .val (.int e_), .val (.int c_), .val (.int (3 : Int32)), .val (.ref b1), .val (.int (((n * (own_pow (3 : Int32))) + (a * (own_pow (2 : Int32)))) + (b * (own_pow (1 : Int32))))), .unset]) rfl kz) ?_
    show OGo p.tables e below Φ (T21.setTop (mkF m 83 #[.val (.int n), .val (.int a), .val (.int b), .val (.int d), .val (.int e_), .val (.int c_), .val (.int (3 : Int32)), .val (.ref b1), .val (.int (((n * (own_pow (3 : Int32))) + (a * (own_pow (2 : Int32)))) + (b * (own_pow (1 : Int32))))), .unset] []))
    refine OGo.st (fun _ kz => XS.iload X21.here hx rfl (hb hby at_83) rfl kz) ?_
    show OGo p.tables e below Φ (T21.setTop (mkF m 85 #[.val (.int n), .val (.int a), .val (.int b), .val (.int d), .val (.int e_), .val (.int c_), .val (.int (3 : Int32)), .val (.ref b1), .val (.int (((n * (own_pow (3 : Int32))) + (a * (own_pow (2 : Int32)))) + (b * (own_pow (1 : Int32))))), .unset] [(.int (3 : Int32))]))
    refine OGo.st (fun _ kz => XS.iconst X21.here hx rfl (hb hby at_85) kz) ?_
    show OGo p.tables e below Φ (T21.setTop (mkF m 86 #[.val (.int n), .val (.int a), .val (.int b), .val (.int d), .val (.int e_), .val (.int c_), .val (.int (3 : Int32)), .val (.ref b1), .val (.int (((n * (own_pow (3 : Int32))) + (a * (own_pow (2 : Int32)))) + (b * (own_pow (1 : Int32))))), .unset] [(.int (2 : Int32)), (.int (3 : Int32))]))
    refine OGo.st (fun _ kz => XS.icmpNo X21.here hx rfl (hb hby at_86) rfl (XT.ii_le_f (by decide)) kz) ?_
    show OGo p.tables e below Φ (T21.setTop (mkF m 89 #[.val (.int n), .val (.int a), .val (.int b), .val (.int d), .val (.int e_), .val (.int c_), .val (.int (3 : Int32)), .val (.ref b1), .val (.int (((n * (own_pow (3 : Int32))) + (a * (own_pow (2 : Int32)))) + (b * (own_pow (1 : Int32))))), .unset] []))
    refine OGo.st (fun _ kz => XS.iload X21.here hx rfl (hb hby at_89) rfl kz) ?_
    show OGo p.tables e below Φ (T21.setTop (mkF m 91 #[.val (.int n), .val (.int a), .val (.int b), .val (.int d), .val (.int e_), .val (.int c_), .val (.int (3 : Int32)), .val (.ref b1), .val (.int (((n * (own_pow (3 : Int32))) + (a * (own_pow (2 : Int32)))) + (b * (own_pow (1 : Int32))))), .unset] [(.int (((n * (own_pow (3 : Int32))) + (a * (own_pow (2 : Int32)))) + (b * (own_pow (1 : Int32)))))]))
    refine OGo.st (fun _ kz => XS.iloadN X21.here hx rfl (hb hby at_91) rfl kz) ?_
    show OGo p.tables e below Φ (T21.setTop (mkF m 92 #[.val (.int n), .val (.int a), .val (.int b), .val (.int d), .val (.int e_), .val (.int c_), .val (.int (3 : Int32)), .val (.ref b1), .val (.int (((n * (own_pow (3 : Int32))) + (a * (own_pow (2 : Int32)))) + (b * (own_pow (1 : Int32))))), .unset] [(.int d), (.int (((n * (own_pow (3 : Int32))) + (a * (own_pow (2 : Int32)))) + (b * (own_pow (1 : Int32)))))]))
    refine OGo.st (fun _ kz => XS.iload X21.here hx rfl (hb hby at_92) rfl kz) ?_
    show OGo p.tables e below Φ (T21.setTop (mkF m 94 #[.val (.int n), .val (.int a), .val (.int b), .val (.int d), .val (.int e_), .val (.int c_), .val (.int (3 : Int32)), .val (.ref b1), .val (.int (((n * (own_pow (3 : Int32))) + (a * (own_pow (2 : Int32)))) + (b * (own_pow (1 : Int32))))), .unset] [(.int (3 : Int32)), (.int d), (.int (((n * (own_pow (3 : Int32))) + (a * (own_pow (2 : Int32)))) + (b * (own_pow (1 : Int32)))))]))
    refine OGo.st (fun _ kz => XS.iconst X21.here hx rfl (hb hby at_94) kz) ?_
    show OGo p.tables e below Φ (T21.setTop (mkF m 95 #[.val (.int n), .val (.int a), .val (.int b), .val (.int d), .val (.int e_), .val (.int c_), .val (.int (3 : Int32)), .val (.ref b1), .val (.int (((n * (own_pow (3 : Int32))) + (a * (own_pow (2 : Int32)))) + (b * (own_pow (1 : Int32))))), .unset] [(.int (3 : Int32)), (.int (3 : Int32)), (.int d), (.int (((n * (own_pow (3 : Int32))) + (a * (own_pow (2 : Int32)))) + (b * (own_pow (1 : Int32)))))]))
    refine OGo.st (fun _ kz => XS.isub X21.here hx rfl (hb hby at_95) rfl kz) ?_
    show OGo p.tables e below Φ (T21.setTop (mkF m 96 #[.val (.int n), .val (.int a), .val (.int b), .val (.int d), .val (.int e_), .val (.int c_), .val (.int (3 : Int32)), .val (.ref b1), .val (.int (((n * (own_pow (3 : Int32))) + (a * (own_pow (2 : Int32)))) + (b * (own_pow (1 : Int32))))), .unset] [(.int (0 : Int32)), (.int d), (.int (((n * (own_pow (3 : Int32))) + (a * (own_pow (2 : Int32)))) + (b * (own_pow (1 : Int32)))))]))
    obtain ⟨_, T22, L22, X22, hQ22, st22⟩ := own_callSt X21 hx hZ hown (ow2 hw) (ow3 hw) (ow4 hw) (ow5 hw) (by decide) (rm1 l Z a0 hw [] (0 : Int32) h5 n0 Zs5 ) e21 (W := 2) (by decide) (by decide) (by decide) (by decide) (pc := 96) (ls := #[.val (.int n), .val (.int a), .val (.int b), .val (.int d), .val (.int e_), .val (.int c_), .val (.int (3 : Int32)), .val (.ref b1), .val (.int (((n * (own_pow (3 : Int32))) + (a * (own_pow (2 : Int32)))) + (b * (own_pow (1 : Int32))))), .unset]) (stk := [(.int (0 : Int32)), (.int d), (.int (((n * (own_pow (3 : Int32))) + (a * (own_pow (2 : Int32)))) + (b * (own_pow (1 : Int32)))))]) (by rw [hml]; rfl) (argsL := [(.int (0 : Int32))]) (rest := [(.int d), (.int (((n * (own_pow (3 : Int32))) + (a * (own_pow (2 : Int32)))) + (b * (own_pow (1 : Int32)))))]) (lenOf pd0 rfl) rfl rfl (Nat.le_of_eq rfl) (hb hby at_96)
    obtain ⟨rfl, Nq22, e22⟩ := hQ22
    have N22 := Fr.app N21 Nq22
    refine OGo.st st22 ?_
    show OGo p.tables e below Φ (T22.setTop (mkF m 99 #[.val (.int n), .val (.int a), .val (.int b), .val (.int d), .val (.int e_), .val (.int c_), .val (.int (3 : Int32)), .val (.ref b1), .val (.int (((n * (own_pow (3 : Int32))) + (a * (own_pow (2 : Int32)))) + (b * (own_pow (1 : Int32))))), .unset] [(.int (own_pow (0 : Int32))), (.int d), (.int (((n * (own_pow (3 : Int32))) + (a * (own_pow (2 : Int32)))) + (b * (own_pow (1 : Int32)))))]))
    refine OGo.st (fun _ kz => XS.imul X22.here hx rfl (hb hby at_99) rfl kz) ?_
    show OGo p.tables e below Φ (T22.setTop (mkF m 100 #[.val (.int n), .val (.int a), .val (.int b), .val (.int d), .val (.int e_), .val (.int c_), .val (.int (3 : Int32)), .val (.ref b1), .val (.int (((n * (own_pow (3 : Int32))) + (a * (own_pow (2 : Int32)))) + (b * (own_pow (1 : Int32))))), .unset] [(.int (d * (own_pow (0 : Int32)))), (.int (((n * (own_pow (3 : Int32))) + (a * (own_pow (2 : Int32)))) + (b * (own_pow (1 : Int32)))))]))
    refine OGo.st (fun _ kz => XS.iadd X22.here hx rfl (hb hby at_100) rfl kz) ?_
    show OGo p.tables e below Φ (T22.setTop (mkF m 101 #[.val (.int n), .val (.int a), .val (.int b), .val (.int d), .val (.int e_), .val (.int c_), .val (.int (3 : Int32)), .val (.ref b1), .val (.int (((n * (own_pow (3 : Int32))) + (a * (own_pow (2 : Int32)))) + (b * (own_pow (1 : Int32))))), .unset] [(.int ((((n * (own_pow (3 : Int32))) + (a * (own_pow (2 : Int32)))) + (b * (own_pow (1 : Int32)))) + (d * (own_pow (0 : Int32)))))]))
    refine OGo.st (fun _ kz => XS.istore X22.here hx rfl (hb hby at_101) rfl (l' := #[.val (.int n), .val (.int a), .val (.int b), .val (.int d), .val (.int e_), .val (.int c_), .val (.int (3 : Int32)), .val (.ref b1), .val (.int ((((n * (own_pow (3 : Int32))) + (a * (own_pow (2 : Int32)))) + (b * (own_pow (1 : Int32)))) + (d * (own_pow (0 : Int32))))), .unset]) rfl kz) ?_
    show OGo p.tables e below Φ (T22.setTop (mkF m 103 #[.val (.int n), .val (.int a), .val (.int b), .val (.int d), .val (.int e_), .val (.int c_), .val (.int (3 : Int32)), .val (.ref b1), .val (.int ((((n * (own_pow (3 : Int32))) + (a * (own_pow (2 : Int32)))) + (b * (own_pow (1 : Int32)))) + (d * (own_pow (0 : Int32))))), .unset] []))
    refine OGo.st (fun _ kz => XS.iload X22.here hx rfl (hb hby at_103) rfl kz) ?_
    show OGo p.tables e below Φ (T22.setTop (mkF m 105 #[.val (.int n), .val (.int a), .val (.int b), .val (.int d), .val (.int e_), .val (.int c_), .val (.int (3 : Int32)), .val (.ref b1), .val (.int ((((n * (own_pow (3 : Int32))) + (a * (own_pow (2 : Int32)))) + (b * (own_pow (1 : Int32)))) + (d * (own_pow (0 : Int32))))), .unset] [(.int (3 : Int32))]))
    refine OGo.st (fun _ kz => XS.iconst X22.here hx rfl (hb hby at_105) kz) ?_
    show OGo p.tables e below Φ (T22.setTop (mkF m 106 #[.val (.int n), .val (.int a), .val (.int b), .val (.int d), .val (.int e_), .val (.int c_), .val (.int (3 : Int32)), .val (.ref b1), .val (.int ((((n * (own_pow (3 : Int32))) + (a * (own_pow (2 : Int32)))) + (b * (own_pow (1 : Int32)))) + (d * (own_pow (0 : Int32))))), .unset] [(.int (3 : Int32)), (.int (3 : Int32))]))
    refine OGo.st (fun _ kz => XS.icmpYes X22.here hx rfl (pc0 := 106) (pc' := 124) rfl (hb hby at_106) rfl (XT.ii_le_t (by decide)) (by decide) (by decide) kz) ?_
    show OGo p.tables e below Φ (T22.setTop (mkF m 124 #[.val (.int n), .val (.int a), .val (.int b), .val (.int d), .val (.int e_), .val (.int c_), .val (.int (3 : Int32)), .val (.ref b1), .val (.int ((((n * (own_pow (3 : Int32))) + (a * (own_pow (2 : Int32)))) + (b * (own_pow (1 : Int32)))) + (d * (own_pow (0 : Int32))))), .unset] []))
    refine OGo.st (fun _ kz => XS.iloadN X22.here hx rfl (hb hby at_124) rfl kz) ?_
    show OGo p.tables e below Φ (T22.setTop (mkF m 125 #[.val (.int n), .val (.int a), .val (.int b), .val (.int d), .val (.int e_), .val (.int c_), .val (.int (3 : Int32)), .val (.ref b1), .val (.int ((((n * (own_pow (3 : Int32))) + (a * (own_pow (2 : Int32)))) + (b * (own_pow (1 : Int32)))) + (d * (own_pow (0 : Int32))))), .unset] [(.int n)]))
    refine OGo.st (fun _ kz => XS.aload X22.here hx rfl (hb hby at_125) rfl rfl kz) ?_
    show OGo p.tables e below Φ (T22.setTop (mkF m 127 #[.val (.int n), .val (.int a), .val (.int b), .val (.int d), .val (.int e_), .val (.int c_), .val (.int (3 : Int32)), .val (.ref b1), .val (.int ((((n * (own_pow (3 : Int32))) + (a * (own_pow (2 : Int32)))) + (b * (own_pow (1 : Int32)))) + (d * (own_pow (0 : Int32))))), .unset] [(.ref b1), (.int n)]))
    refine OGo.st (fun _ kz => XS.iload X22.here hx rfl (hb hby at_127) rfl kz) ?_
    show OGo p.tables e below Φ (T22.setTop (mkF m 129 #[.val (.int n), .val (.int a), .val (.int b), .val (.int d), .val (.int e_), .val (.int c_), .val (.int (3 : Int32)), .val (.ref b1), .val (.int ((((n * (own_pow (3 : Int32))) + (a * (own_pow (2 : Int32)))) + (b * (own_pow (1 : Int32)))) + (d * (own_pow (0 : Int32))))), .unset] [(.int (3 : Int32)), (.ref b1), (.int n)]))
    obtain ⟨_, T23, L23, X23, hQ23, st23⟩ := own_callSt X22 hx hZ hown (ow6 hw) (ow7 hw) (ow8 hw) (ow9 hw) (by decide) (rm2_3 l Z a0 hw [] n b1 c1 a b d e_ h5 n0 Zs5 V5) e22 (W := 0) (by decide) (by decide) (by decide) (by decide) (pc := 129) (ls := #[.val (.int n), .val (.int a), .val (.int b), .val (.int d), .val (.int e_), .val (.int c_), .val (.int (3 : Int32)), .val (.ref b1), .val (.int ((((n * (own_pow (3 : Int32))) + (a * (own_pow (2 : Int32)))) + (b * (own_pow (1 : Int32)))) + (d * (own_pow (0 : Int32))))), .unset]) (stk := [(.int (3 : Int32)), (.ref b1), (.int n)]) (by rw [hml]; rfl) (argsL := [(.int n), (.ref b1), (.int (3 : Int32))]) (rest := []) (lenOf pd1 rfl) rfl rfl (Nat.le_of_eq rfl) (hb hby at_129)
    obtain ⟨rfl, Nq23, e23⟩ := hQ23
    have N23 := Fr.app N22 Nq23
    refine OGo.st st23 ?_
    show OGo p.tables e below Φ (T23.setTop (mkF m 132 #[.val (.int n), .val (.int a), .val (.int b), .val (.int d), .val (.int e_), .val (.int c_), .val (.int (3 : Int32)), .val (.ref b1), .val (.int ((((n * (own_pow (3 : Int32))) + (a * (own_pow (2 : Int32)))) + (b * (own_pow (1 : Int32)))) + (d * (own_pow (0 : Int32))))), .unset] [(.int (((31 : Int32) * (((31 : Int32) * (((31 : Int32) * n) + a)) + b)) + d))]))
    refine OGo.st (fun _ kz => XS.istore X23.here hx rfl (hb hby at_132) rfl (l' := #[.val (.int n), .val (.int a), .val (.int b), .val (.int d), .val (.int e_), .val (.int c_), .val (.int (3 : Int32)), .val (.ref b1), .val (.int ((((n * (own_pow (3 : Int32))) + (a * (own_pow (2 : Int32)))) + (b * (own_pow (1 : Int32)))) + (d * (own_pow (0 : Int32))))), .val (.int (((31 : Int32) * (((31 : Int32) * (((31 : Int32) * n) + a)) + b)) + d))]) rfl kz) ?_
    show OGo p.tables e below Φ (T23.setTop (mkF m 134 #[.val (.int n), .val (.int a), .val (.int b), .val (.int d), .val (.int e_), .val (.int c_), .val (.int (3 : Int32)), .val (.ref b1), .val (.int ((((n * (own_pow (3 : Int32))) + (a * (own_pow (2 : Int32)))) + (b * (own_pow (1 : Int32)))) + (d * (own_pow (0 : Int32))))), .val (.int (((31 : Int32) * (((31 : Int32) * (((31 : Int32) * n) + a)) + b)) + d))] []))
    refine OGo.st (fun _ kz => XS.iload X23.here hx rfl (hb hby at_134) rfl kz) ?_
    show OGo p.tables e below Φ (T23.setTop (mkF m 136 #[.val (.int n), .val (.int a), .val (.int b), .val (.int d), .val (.int e_), .val (.int c_), .val (.int (3 : Int32)), .val (.ref b1), .val (.int ((((n * (own_pow (3 : Int32))) + (a * (own_pow (2 : Int32)))) + (b * (own_pow (1 : Int32)))) + (d * (own_pow (0 : Int32))))), .val (.int (((31 : Int32) * (((31 : Int32) * (((31 : Int32) * n) + a)) + b)) + d))] [(.int (((31 : Int32) * (((31 : Int32) * (((31 : Int32) * n) + a)) + b)) + d))]))
    refine OGo.st (fun _ kz => XS.iload X23.here hx rfl (hb hby at_136) rfl kz) ?_
    show OGo p.tables e below Φ (T23.setTop (mkF m 138 #[.val (.int n), .val (.int a), .val (.int b), .val (.int d), .val (.int e_), .val (.int c_), .val (.int (3 : Int32)), .val (.ref b1), .val (.int ((((n * (own_pow (3 : Int32))) + (a * (own_pow (2 : Int32)))) + (b * (own_pow (1 : Int32)))) + (d * (own_pow (0 : Int32))))), .val (.int (((31 : Int32) * (((31 : Int32) * (((31 : Int32) * n) + a)) + b)) + d))] [(.int ((((n * (own_pow (3 : Int32))) + (a * (own_pow (2 : Int32)))) + (b * (own_pow (1 : Int32)))) + (d * (own_pow (0 : Int32))))), (.int (((31 : Int32) * (((31 : Int32) * (((31 : Int32) * n) + a)) + b)) + d))]))
    by_cases hc24 : (((31 : Int32) * (((31 : Int32) * (((31 : Int32) * n) + a)) + b)) + d) = ((((n * (own_pow (3 : Int32))) + (a * (own_pow (2 : Int32)))) + (b * (own_pow (1 : Int32)))) + (d * (own_pow (0 : Int32))))
    · refine OGo.st (fun _ kz => XS.icmpNo X23.here hx rfl (hb hby at_138) rfl (XT.ii_ne_f hc24) kz) ?_
      show OGo p.tables e below Φ (T23.setTop (mkF m 141 #[.val (.int n), .val (.int a), .val (.int b), .val (.int d), .val (.int e_), .val (.int c_), .val (.int (3 : Int32)), .val (.ref b1), .val (.int ((((n * (own_pow (3 : Int32))) + (a * (own_pow (2 : Int32)))) + (b * (own_pow (1 : Int32)))) + (d * (own_pow (0 : Int32))))), .val (.int (((31 : Int32) * (((31 : Int32) * (((31 : Int32) * n) + a)) + b)) + d))] []))
      refine OGo.st (fun _ kz => XS.iconst X23.here hx rfl (hb hby at_141) kz) ?_
      show OGo p.tables e below Φ (T23.setTop (mkF m 142 #[.val (.int n), .val (.int a), .val (.int b), .val (.int d), .val (.int e_), .val (.int c_), .val (.int (3 : Int32)), .val (.ref b1), .val (.int ((((n * (own_pow (3 : Int32))) + (a * (own_pow (2 : Int32)))) + (b * (own_pow (1 : Int32)))) + (d * (own_pow (0 : Int32))))), .val (.int (((31 : Int32) * (((31 : Int32) * (((31 : Int32) * n) + a)) + b)) + d))] [(.int (1 : Int32))]))
      refine OGo.st (fun _ kz => XS.goto X23.here hx rfl (pc0 := 142) (pc' := 146) rfl (hb hby at_142) (by decide) (by decide) kz) ?_
      show OGo p.tables e below Φ (T23.setTop (mkF m 146 #[.val (.int n), .val (.int a), .val (.int b), .val (.int d), .val (.int e_), .val (.int c_), .val (.int (3 : Int32)), .val (.ref b1), .val (.int ((((n * (own_pow (3 : Int32))) + (a * (own_pow (2 : Int32)))) + (b * (own_pow (1 : Int32)))) + (d * (own_pow (0 : Int32))))), .val (.int (((31 : Int32) * (((31 : Int32) * (((31 : Int32) * n) + a)) + b)) + d))] [(.int (1 : Int32))]))
      refine OGo.fin X23 hlk (v := (some (.int (1 : Int32)))) (fun h => by rw [hret] at h; cases h) (by decide) (by decide) (fun fs hr => X23.ireturnOut hx hret rfl (by simp) (hb hby at_146) hr) fun U eU hF => hΦ _ _ _ ?_ hF
      rw [eU, e23]
      show Q_rm0 Z n a b d e_ c_ h0 n0 _ _ _
      exact ⟨rfl, N23⟩
    · refine OGo.st (fun _ kz => XS.icmpYes X23.here hx rfl (pc0 := 138) (pc' := 145) rfl (hb hby at_138) rfl (XT.ii_ne_t hc24) (by decide) (by decide) kz) ?_
      show OGo p.tables e below Φ (T23.setTop (mkF m 145 #[.val (.int n), .val (.int a), .val (.int b), .val (.int d), .val (.int e_), .val (.int c_), .val (.int (3 : Int32)), .val (.ref b1), .val (.int ((((n * (own_pow (3 : Int32))) + (a * (own_pow (2 : Int32)))) + (b * (own_pow (1 : Int32)))) + (d * (own_pow (0 : Int32))))), .val (.int (((31 : Int32) * (((31 : Int32) * (((31 : Int32) * n) + a)) + b)) + d))] []))
      refine OGo.st (fun _ kz => XS.iconst X23.here hx rfl (hb hby at_145) kz) ?_
      show OGo p.tables e below Φ (T23.setTop (mkF m 146 #[.val (.int n), .val (.int a), .val (.int b), .val (.int d), .val (.int e_), .val (.int c_), .val (.int (3 : Int32)), .val (.ref b1), .val (.int ((((n * (own_pow (3 : Int32))) + (a * (own_pow (2 : Int32)))) + (b * (own_pow (1 : Int32)))) + (d * (own_pow (0 : Int32))))), .val (.int (((31 : Int32) * (((31 : Int32) * (((31 : Int32) * n) + a)) + b)) + d))] [(.int (0 : Int32))]))
      exact absurd (by simp only [own_pow0, own_pow1, own_pow2, own_pow3, own_pow4]; grind) hc24
  · rw [hk6]
    show OGo p.tables e below Φ (T5.setTop (mkF m 35 #[.val (.int n), .val (.int a), .val (.int b), .val (.int d), .val (.int e_), .val (.int c_), .val (.int (4 : Int32)), .val (.ref b1), .unset, .unset] []))
    refine OGo.st (fun _ kz => XS.iloadN X5.here hx rfl (hb hby at_35) rfl kz) ?_
    show OGo p.tables e below Φ (T5.setTop (mkF m 36 #[.val (.int n), .val (.int a), .val (.int b), .val (.int d), .val (.int e_), .val (.int c_), .val (.int (4 : Int32)), .val (.ref b1), .unset, .unset] [(.int n)]))
    refine OGo.st (fun _ kz => XS.iload X5.here hx rfl (hb hby at_36) rfl kz) ?_
    show OGo p.tables e below Φ (T5.setTop (mkF m 38 #[.val (.int n), .val (.int a), .val (.int b), .val (.int d), .val (.int e_), .val (.int c_), .val (.int (4 : Int32)), .val (.ref b1), .unset, .unset] [(.int (4 : Int32)), (.int n)]))
    obtain ⟨_, T25, L25, X25, hQ25, st25⟩ := own_callSt X5 hx hZ hown (ow2 hw) (ow3 hw) (ow4 hw) (ow5 hw) (by decide) (rm1 l Z a0 hw [] (4 : Int32) h5 n0 Zs5 ) e5 (W := 1) (by decide) (by decide) (by decide) (by decide) (pc := 38) (ls := #[.val (.int n), .val (.int a), .val (.int b), .val (.int d), .val (.int e_), .val (.int c_), .val (.int (4 : Int32)), .val (.ref b1), .unset, .unset]) (stk := [(.int (4 : Int32)), (.int n)]) (by rw [hml]; rfl) (argsL := [(.int (4 : Int32))]) (rest := [(.int n)]) (lenOf pd0 rfl) rfl rfl (Nat.le_of_eq rfl) (hb hby at_38)
    obtain ⟨rfl, Nq25, e25⟩ := hQ25
    have N25 := Fr.app N5 Nq25
    refine OGo.st st25 ?_
    show OGo p.tables e below Φ (T25.setTop (mkF m 41 #[.val (.int n), .val (.int a), .val (.int b), .val (.int d), .val (.int e_), .val (.int c_), .val (.int (4 : Int32)), .val (.ref b1), .unset, .unset] [(.int (own_pow (4 : Int32))), (.int n)]))
    refine OGo.st (fun _ kz => XS.imul X25.here hx rfl (hb hby at_41) rfl kz) ?_
    show OGo p.tables e below Φ (T25.setTop (mkF m 42 #[.val (.int n), .val (.int a), .val (.int b), .val (.int d), .val (.int e_), .val (.int c_), .val (.int (4 : Int32)), .val (.ref b1), .unset, .unset] [(.int (n * (own_pow (4 : Int32))))]))
    refine OGo.st (fun _ kz => XS.istore X25.here hx rfl (hb hby at_42) rfl (l' := #[.val (.int n), .val (.int a), .val (.int b), .val (.int d), .val (.int e_), .val (.int c_), .val (.int (4 : Int32)), .val (.ref b1), .val (.int (n * (own_pow (4 : Int32)))), .unset]) rfl kz) ?_
    show OGo p.tables e below Φ (T25.setTop (mkF m 44 #[.val (.int n), .val (.int a), .val (.int b), .val (.int d), .val (.int e_), .val (.int c_), .val (.int (4 : Int32)), .val (.ref b1), .val (.int (n * (own_pow (4 : Int32)))), .unset] []))
    refine OGo.st (fun _ kz => XS.iload X25.here hx rfl (hb hby at_44) rfl kz) ?_
    show OGo p.tables e below Φ (T25.setTop (mkF m 46 #[.val (.int n), .val (.int a), .val (.int b), .val (.int d), .val (.int e_), .val (.int c_), .val (.int (4 : Int32)), .val (.ref b1), .val (.int (n * (own_pow (4 : Int32)))), .unset] [(.int (4 : Int32))]))
    refine OGo.st (fun _ kz => XS.ifNo X25.here hx rfl (hb hby at_46) rfl (XT.i0_le_f (by decide)) kz) ?_
    show OGo p.tables e below Φ (T25.setTop (mkF m 49 #[.val (.int n), .val (.int a), .val (.int b), .val (.int d), .val (.int e_), .val (.int c_), .val (.int (4 : Int32)), .val (.ref b1), .val (.int (n * (own_pow (4 : Int32)))), .unset] []))
    refine OGo.st (fun _ kz => XS.iload X25.here hx rfl (hb hby at_49) rfl kz) ?_
    show OGo p.tables e below Φ (T25.setTop (mkF m 51 #[.val (.int n), .val (.int a), .val (.int b), .val (.int d), .val (.int e_), .val (.int c_), .val (.int (4 : Int32)), .val (.ref b1), .val (.int (n * (own_pow (4 : Int32)))), .unset] [(.int (n * (own_pow (4 : Int32))))]))
    refine OGo.st (fun _ kz => XS.iloadN X25.here hx rfl (hb hby at_51) rfl kz) ?_
    show OGo p.tables e below Φ (T25.setTop (mkF m 52 #[.val (.int n), .val (.int a), .val (.int b), .val (.int d), .val (.int e_), .val (.int c_), .val (.int (4 : Int32)), .val (.ref b1), .val (.int (n * (own_pow (4 : Int32)))), .unset] [(.int a), (.int (n * (own_pow (4 : Int32))))]))
    refine OGo.st (fun _ kz => XS.iload X25.here hx rfl (hb hby at_52) rfl kz) ?_
    show OGo p.tables e below Φ (T25.setTop (mkF m 54 #[.val (.int n), .val (.int a), .val (.int b), .val (.int d), .val (.int e_), .val (.int c_), .val (.int (4 : Int32)), .val (.ref b1), .val (.int (n * (own_pow (4 : Int32)))), .unset] [(.int (4 : Int32)), (.int a), (.int (n * (own_pow (4 : Int32))))]))
    refine OGo.st (fun _ kz => XS.iconst X25.here hx rfl (hb hby at_54) kz) ?_
    show OGo p.tables e below Φ (T25.setTop (mkF m 55 #[.val (.int n), .val (.int a), .val (.int b), .val (.int d), .val (.int e_), .val (.int c_), .val (.int (4 : Int32)), .val (.ref b1), .val (.int (n * (own_pow (4 : Int32)))), .unset] [(.int (1 : Int32)), (.int (4 : Int32)), (.int a), (.int (n * (own_pow (4 : Int32))))]))
    refine OGo.st (fun _ kz => XS.isub X25.here hx rfl (hb hby at_55) rfl kz) ?_
    show OGo p.tables e below Φ (T25.setTop (mkF m 56 #[.val (.int n), .val (.int a), .val (.int b), .val (.int d), .val (.int e_), .val (.int c_), .val (.int (4 : Int32)), .val (.ref b1), .val (.int (n * (own_pow (4 : Int32)))), .unset] [(.int (3 : Int32)), (.int a), (.int (n * (own_pow (4 : Int32))))]))
    obtain ⟨_, T26, L26, X26, hQ26, st26⟩ := own_callSt X25 hx hZ hown (ow2 hw) (ow3 hw) (ow4 hw) (ow5 hw) (by decide) (rm1 l Z a0 hw [] (3 : Int32) h5 n0 Zs5 ) e25 (W := 2) (by decide) (by decide) (by decide) (by decide) (pc := 56) (ls := #[.val (.int n), .val (.int a), .val (.int b), .val (.int d), .val (.int e_), .val (.int c_), .val (.int (4 : Int32)), .val (.ref b1), .val (.int (n * (own_pow (4 : Int32)))), .unset]) (stk := [(.int (3 : Int32)), (.int a), (.int (n * (own_pow (4 : Int32))))]) (by rw [hml]; rfl) (argsL := [(.int (3 : Int32))]) (rest := [(.int a), (.int (n * (own_pow (4 : Int32))))]) (lenOf pd0 rfl) rfl rfl (Nat.le_of_eq rfl) (hb hby at_56)
    obtain ⟨rfl, Nq26, e26⟩ := hQ26
    have N26 := Fr.app N25 Nq26
    refine OGo.st st26 ?_
    show OGo p.tables e below Φ (T26.setTop (mkF m 59 #[.val (.int n), .val (.int a), .val (.int b), .val (.int d), .val (.int e_), .val (.int c_), .val (.int (4 : Int32)), .val (.ref b1), .val (.int (n * (own_pow (4 : Int32)))), .unset] [(.int (own_pow (3 : Int32))), (.int a), (.int (n * (own_pow (4 : Int32))))]))
    refine OGo.st (fun _ kz => XS.imul X26.here hx rfl (hb hby at_59) rfl kz) ?_
    show OGo p.tables e below Φ (T26.setTop (mkF m 60 #[.val (.int n), .val (.int a), .val (.int b), .val (.int d), .val (.int e_), .val (.int c_), .val (.int (4 : Int32)), .val (.ref b1), .val (.int (n * (own_pow (4 : Int32)))), .unset] [(.int (a * (own_pow (3 : Int32)))), (.int (n * (own_pow (4 : Int32))))]))
    refine OGo.st (fun _ kz => XS.iadd X26.here hx rfl (hb hby at_60) rfl kz) ?_
    show OGo p.tables e below Φ (T26.setTop (mkF m 61 #[.val (.int n), .val (.int a), .val (.int b), .val (.int d), .val (.int e_), .val (.int c_), .val (.int (4 : Int32)), .val (.ref b1), .val (.int (n * (own_pow (4 : Int32)))), .unset] [(.int ((n * (own_pow (4 : Int32))) + (a * (own_pow (3 : Int32)))))]))
    refine OGo.st (fun _ kz => XS.istore X26.here hx rfl (hb hby at_61) rfl (l' := #[.val (.int n), .val (.int a), .val (.int b), .val (.int d), .val (.int e_), .val (.int c_), .val (.int (4 : Int32)), .val (.ref b1), .val (.int ((n * (own_pow (4 : Int32))) + (a * (own_pow (3 : Int32))))), .unset]) rfl kz) ?_
    show OGo p.tables e below Φ (T26.setTop (mkF m 63 #[.val (.int n), .val (.int a), .val (.int b), .val (.int d), .val (.int e_), .val (.int c_), .val (.int (4 : Int32)), .val (.ref b1), .val (.int ((n * (own_pow (4 : Int32))) + (a * (own_pow (3 : Int32))))), .unset] []))
    refine OGo.st (fun _ kz => XS.iload X26.here hx rfl (hb hby at_63) rfl kz) ?_
    show OGo p.tables e below Φ (T26.setTop (mkF m 65 #[.val (.int n), .val (.int a), .val (.int b), .val (.int d), .val (.int e_), .val (.int c_), .val (.int (4 : Int32)), .val (.ref b1), .val (.int ((n * (own_pow (4 : Int32))) + (a * (own_pow (3 : Int32))))), .unset] [(.int (4 : Int32))]))
    refine OGo.st (fun _ kz => XS.iconst X26.here hx rfl (hb hby at_65) kz) ?_
    show OGo p.tables e below Φ (T26.setTop (mkF m 66 #[.val (.int n), .val (.int a), .val (.int b), .val (.int d), .val (.int e_), .val (.int c_), .val (.int (4 : Int32)), .val (.ref b1), .val (.int ((n * (own_pow (4 : Int32))) + (a * (own_pow (3 : Int32))))), .unset] [(.int (1 : Int32)), (.int (4 : Int32))]))
    refine OGo.st (fun _ kz => XS.icmpNo X26.here hx rfl (hb hby at_66) rfl (XT.ii_le_f (by decide)) kz) ?_
    show OGo p.tables e below Φ (T26.setTop (mkF m 69 #[.val (.int n), .val (.int a), .val (.int b), .val (.int d), .val (.int e_), .val (.int c_), .val (.int (4 : Int32)), .val (.ref b1), .val (.int ((n * (own_pow (4 : Int32))) + (a * (own_pow (3 : Int32))))), .unset] []))
    refine OGo.st (fun _ kz => XS.iload X26.here hx rfl (hb hby at_69) rfl kz) ?_
    show OGo p.tables e below Φ (T26.setTop (mkF m 71 #[.val (.int n), .val (.int a), .val (.int b), .val (.int d), .val (.int e_), .val (.int c_), .val (.int (4 : Int32)), .val (.ref b1), .val (.int ((n * (own_pow (4 : Int32))) + (a * (own_pow (3 : Int32))))), .unset] [(.int ((n * (own_pow (4 : Int32))) + (a * (own_pow (3 : Int32)))))]))
    refine OGo.st (fun _ kz => XS.iloadN X26.here hx rfl (hb hby at_71) rfl kz) ?_
    show OGo p.tables e below Φ (T26.setTop (mkF m 72 #[.val (.int n), .val (.int a), .val (.int b), .val (.int d), .val (.int e_), .val (.int c_), .val (.int (4 : Int32)), .val (.ref b1), .val (.int ((n * (own_pow (4 : Int32))) + (a * (own_pow (3 : Int32))))), .unset] [(.int b), (.int ((n * (own_pow (4 : Int32))) + (a * (own_pow (3 : Int32)))))]))
    refine OGo.st (fun _ kz => XS.iload X26.here hx rfl (hb hby at_72) rfl kz) ?_
    show OGo p.tables e below Φ (T26.setTop (mkF m 74 #[.val (.int n), .val (.int a), .val (.int b), .val (.int d), .val (.int e_), .val (.int c_), .val (.int (4 : Int32)), .val (.ref b1), .val (.int ((n * (own_pow (4 : Int32))) + (a * (own_pow (3 : Int32))))), .unset] [(.int (4 : Int32)), (.int b), (.int ((n * (own_pow (4 : Int32))) + (a * (own_pow (3 : Int32)))))]))
    refine OGo.st (fun _ kz => XS.iconst X26.here hx rfl (hb hby at_74) kz) ?_
    show OGo p.tables e below Φ (T26.setTop (mkF m 75 #[.val (.int n), .val (.int a), .val (.int b), .val (.int d), .val (.int e_), .val (.int c_), .val (.int (4 : Int32)), .val (.ref b1), .val (.int ((n * (own_pow (4 : Int32))) + (a * (own_pow (3 : Int32))))), .unset] [(.int (2 : Int32)), (.int (4 : Int32)), (.int b), (.int ((n * (own_pow (4 : Int32))) + (a * (own_pow (3 : Int32)))))]))
    refine OGo.st (fun _ kz => XS.isub X26.here hx rfl (hb hby at_75) rfl kz) ?_
    show OGo p.tables e below Φ (T26.setTop (mkF m 76 #[.val (.int n), .val (.int a), .val (.int b), .val (.int d), .val (.int e_), .val (.int c_), .val (.int (4 : Int32)), .val (.ref b1), .val (.int ((n * (own_pow (4 : Int32))) + (a * (own_pow (3 : Int32))))), .unset] [(.int (2 : Int32)), (.int b), (.int ((n * (own_pow (4 : Int32))) + (a * (own_pow (3 : Int32)))))]))
    obtain ⟨_, T27, L27, X27, hQ27, st27⟩ := own_callSt X26 hx hZ hown (ow2 hw) (ow3 hw) (ow4 hw) (ow5 hw) (by decide) (rm1 l Z a0 hw [] (2 : Int32) h5 n0 Zs5 ) e26 (W := 2) (by decide) (by decide) (by decide) (by decide) (pc := 76) (ls := #[.val (.int n), .val (.int a), .val (.int b), .val (.int d), .val (.int e_), .val (.int c_), .val (.int (4 : Int32)), .val (.ref b1), .val (.int ((n * (own_pow (4 : Int32))) + (a * (own_pow (3 : Int32))))), .unset]) (stk := [(.int (2 : Int32)), (.int b), (.int ((n * (own_pow (4 : Int32))) + (a * (own_pow (3 : Int32)))))]) (by rw [hml]; rfl) (argsL := [(.int (2 : Int32))]) (rest := [(.int b), (.int ((n * (own_pow (4 : Int32))) + (a * (own_pow (3 : Int32)))))]) (lenOf pd0 rfl) rfl rfl (Nat.le_of_eq rfl) (hb hby at_76)
    obtain ⟨rfl, Nq27, e27⟩ := hQ27
    have N27 := Fr.app N26 Nq27
    refine OGo.st st27 ?_
    show OGo p.tables e below Φ (T27.setTop (mkF m 79 #[.val (.int n), .val (.int a), .val (.int b), .val (.int d), .val (.int e_), .val (.int c_), .val (.int (4 : Int32)), .val (.ref b1), .val (.int ((n * (own_pow (4 : Int32))) + (a * (own_pow (3 : Int32))))), .unset] [(.int (own_pow (2 : Int32))), (.int b), (.int ((n * (own_pow (4 : Int32))) + (a * (own_pow (3 : Int32)))))]))
    refine OGo.st (fun _ kz => XS.imul X27.here hx rfl (hb hby at_79) rfl kz) ?_
    show OGo p.tables e below Φ (T27.setTop (mkF m 80 #[.val (.int n), .val (.int a), .val (.int b), .val (.int d), .val (.int e_), .val (.int c_), .val (.int (4 : Int32)), .val (.ref b1), .val (.int ((n * (own_pow (4 : Int32))) + (a * (own_pow (3 : Int32))))), .unset] [(.int (b * (own_pow (2 : Int32)))), (.int ((n * (own_pow (4 : Int32))) + (a * (own_pow (3 : Int32)))))]))
    refine OGo.st (fun _ kz => XS.iadd X27.here hx rfl (hb hby at_80) rfl kz) ?_
    show OGo p.tables e below Φ (T27.setTop (mkF m 81 #[.val (.int n), .val (.int a), .val (.int b), .val (.int d), .val (.int e_), .val (.int c_), .val (.int (4 : Int32)), .val (.ref b1), .val (.int ((n * (own_pow (4 : Int32))) + (a * (own_pow (3 : Int32))))), .unset] [(.int (((n * (own_pow (4 : Int32))) + (a * (own_pow (3 : Int32)))) + (b * (own_pow (2 : Int32)))))]))
    refine OGo.st (fun _ kz => XS.istore X27.here hx rfl (hb hby at_81) rfl (l' := #[.val (.int n), .val (.int a), .val (.int b), .val (.int d), .val (.int e_), .val (.int c_), .val (.int (4 : Int32)), .val (.ref b1), .val (.int (((n * (own_pow (4 : Int32))) + (a * (own_pow (3 : Int32)))) + (b * (own_pow (2 : Int32))))), .unset]) rfl kz) ?_
    show OGo p.tables e below Φ (T27.setTop (mkF m 83 #[.val (.int n), .val (.int a), .val (.int b), .val (.int d), .val (.int e_), .val (.int c_), .val (.int (4 : Int32)), .val (.ref b1), .val (.int (((n * (own_pow (4 : Int32))) + (a * (own_pow (3 : Int32)))) + (b * (own_pow (2 : Int32))))), .unset] []))
    refine OGo.st (fun _ kz => XS.iload X27.here hx rfl (hb hby at_83) rfl kz) ?_
    show OGo p.tables e below Φ (T27.setTop (mkF m 85 #[.val (.int n), .val (.int a), .val (.int b), .val (.int d), .val (.int e_), .val (.int c_), .val (.int (4 : Int32)), .val (.ref b1), .val (.int (((n * (own_pow (4 : Int32))) + (a * (own_pow (3 : Int32)))) + (b * (own_pow (2 : Int32))))), .unset] [(.int (4 : Int32))]))
    refine OGo.st (fun _ kz => XS.iconst X27.here hx rfl (hb hby at_85) kz) ?_
    show OGo p.tables e below Φ (T27.setTop (mkF m 86 #[.val (.int n), .val (.int a), .val (.int b), .val (.int d), .val (.int e_), .val (.int c_), .val (.int (4 : Int32)), .val (.ref b1), .val (.int (((n * (own_pow (4 : Int32))) + (a * (own_pow (3 : Int32)))) + (b * (own_pow (2 : Int32))))), .unset] [(.int (2 : Int32)), (.int (4 : Int32))]))
    refine OGo.st (fun _ kz => XS.icmpNo X27.here hx rfl (hb hby at_86) rfl (XT.ii_le_f (by decide)) kz) ?_
    show OGo p.tables e below Φ (T27.setTop (mkF m 89 #[.val (.int n), .val (.int a), .val (.int b), .val (.int d), .val (.int e_), .val (.int c_), .val (.int (4 : Int32)), .val (.ref b1), .val (.int (((n * (own_pow (4 : Int32))) + (a * (own_pow (3 : Int32)))) + (b * (own_pow (2 : Int32))))), .unset] []))
    refine OGo.st (fun _ kz => XS.iload X27.here hx rfl (hb hby at_89) rfl kz) ?_
    show OGo p.tables e below Φ (T27.setTop (mkF m 91 #[.val (.int n), .val (.int a), .val (.int b), .val (.int d), .val (.int e_), .val (.int c_), .val (.int (4 : Int32)), .val (.ref b1), .val (.int (((n * (own_pow (4 : Int32))) + (a * (own_pow (3 : Int32)))) + (b * (own_pow (2 : Int32))))), .unset] [(.int (((n * (own_pow (4 : Int32))) + (a * (own_pow (3 : Int32)))) + (b * (own_pow (2 : Int32)))))]))
    refine OGo.st (fun _ kz => XS.iloadN X27.here hx rfl (hb hby at_91) rfl kz) ?_
    show OGo p.tables e below Φ (T27.setTop (mkF m 92 #[.val (.int n), .val (.int a), .val (.int b), .val (.int d), .val (.int e_), .val (.int c_), .val (.int (4 : Int32)), .val (.ref b1), .val (.int (((n * (own_pow (4 : Int32))) + (a * (own_pow (3 : Int32)))) + (b * (own_pow (2 : Int32))))), .unset] [(.int d), (.int (((n * (own_pow (4 : Int32))) + (a * (own_pow (3 : Int32)))) + (b * (own_pow (2 : Int32)))))]))
    refine OGo.st (fun _ kz => XS.iload X27.here hx rfl (hb hby at_92) rfl kz) ?_
    show OGo p.tables e below Φ (T27.setTop (mkF m 94 #[.val (.int n), .val (.int a), .val (.int b), .val (.int d), .val (.int e_), .val (.int c_), .val (.int (4 : Int32)), .val (.ref b1), .val (.int (((n * (own_pow (4 : Int32))) + (a * (own_pow (3 : Int32)))) + (b * (own_pow (2 : Int32))))), .unset] [(.int (4 : Int32)), (.int d), (.int (((n * (own_pow (4 : Int32))) + (a * (own_pow (3 : Int32)))) + (b * (own_pow (2 : Int32)))))]))
    refine OGo.st (fun _ kz => XS.iconst X27.here hx rfl (hb hby at_94) kz) ?_
    show OGo p.tables e below Φ (T27.setTop (mkF m 95 #[.val (.int n), .val (.int a), .val (.int b), .val (.int d), .val (.int e_), .val (.int c_), .val (.int (4 : Int32)), .val (.ref b1), .val (.int (((n * (own_pow (4 : Int32))) + (a * (own_pow (3 : Int32)))) + (b * (own_pow (2 : Int32))))), .unset] [(.int (3 : Int32)), (.int (4 : Int32)), (.int d), (.int (((n * (own_pow (4 : Int32))) + (a * (own_pow (3 : Int32)))) + (b * (own_pow (2 : Int32)))))]))
    refine OGo.st (fun _ kz => XS.isub X27.here hx rfl (hb hby at_95) rfl kz) ?_
    show OGo p.tables e below Φ (T27.setTop (mkF m 96 #[.val (.int n), .val (.int a), .val (.int b), .val (.int d), .val (.int e_), .val (.int c_), .val (.int (4 : Int32)), .val (.ref b1), .val (.int (((n * (own_pow (4 : Int32))) + (a * (own_pow (3 : Int32)))) + (b * (own_pow (2 : Int32))))), .unset] [(.int (1 : Int32)), (.int d), (.int (((n * (own_pow (4 : Int32))) + (a * (own_pow (3 : Int32)))) + (b * (own_pow (2 : Int32)))))]))
    obtain ⟨_, T28, L28, X28, hQ28, st28⟩ := own_callSt X27 hx hZ hown (ow2 hw) (ow3 hw) (ow4 hw) (ow5 hw) (by decide) (rm1 l Z a0 hw [] (1 : Int32) h5 n0 Zs5 ) e27 (W := 2) (by decide) (by decide) (by decide) (by decide) (pc := 96) (ls := #[.val (.int n), .val (.int a), .val (.int b), .val (.int d), .val (.int e_), .val (.int c_), .val (.int (4 : Int32)), .val (.ref b1), .val (.int (((n * (own_pow (4 : Int32))) + (a * (own_pow (3 : Int32)))) + (b * (own_pow (2 : Int32))))), .unset]) (stk := [(.int (1 : Int32)), (.int d), (.int (((n * (own_pow (4 : Int32))) + (a * (own_pow (3 : Int32)))) + (b * (own_pow (2 : Int32)))))]) (by rw [hml]; rfl) (argsL := [(.int (1 : Int32))]) (rest := [(.int d), (.int (((n * (own_pow (4 : Int32))) + (a * (own_pow (3 : Int32)))) + (b * (own_pow (2 : Int32)))))]) (lenOf pd0 rfl) rfl rfl (Nat.le_of_eq rfl) (hb hby at_96)
    obtain ⟨rfl, Nq28, e28⟩ := hQ28
    have N28 := Fr.app N27 Nq28
    refine OGo.st st28 ?_
    show OGo p.tables e below Φ (T28.setTop (mkF m 99 #[.val (.int n), .val (.int a), .val (.int b), .val (.int d), .val (.int e_), .val (.int c_), .val (.int (4 : Int32)), .val (.ref b1), .val (.int (((n * (own_pow (4 : Int32))) + (a * (own_pow (3 : Int32)))) + (b * (own_pow (2 : Int32))))), .unset] [(.int (own_pow (1 : Int32))), (.int d), (.int (((n * (own_pow (4 : Int32))) + (a * (own_pow (3 : Int32)))) + (b * (own_pow (2 : Int32)))))]))
    refine OGo.st (fun _ kz => XS.imul X28.here hx rfl (hb hby at_99) rfl kz) ?_
    show OGo p.tables e below Φ (T28.setTop (mkF m 100 #[.val (.int n), .val (.int a), .val (.int b), .val (.int d), .val (.int e_), .val (.int c_), .val (.int (4 : Int32)), .val (.ref b1), .val (.int (((n * (own_pow (4 : Int32))) + (a * (own_pow (3 : Int32)))) + (b * (own_pow (2 : Int32))))), .unset] [(.int (d * (own_pow (1 : Int32)))), (.int (((n * (own_pow (4 : Int32))) + (a * (own_pow (3 : Int32)))) + (b * (own_pow (2 : Int32)))))]))
    refine OGo.st (fun _ kz => XS.iadd X28.here hx rfl (hb hby at_100) rfl kz) ?_
    show OGo p.tables e below Φ (T28.setTop (mkF m 101 #[.val (.int n), .val (.int a), .val (.int b), .val (.int d), .val (.int e_), .val (.int c_), .val (.int (4 : Int32)), .val (.ref b1), .val (.int (((n * (own_pow (4 : Int32))) + (a * (own_pow (3 : Int32)))) + (b * (own_pow (2 : Int32))))), .unset] [(.int ((((n * (own_pow (4 : Int32))) + (a * (own_pow (3 : Int32)))) + (b * (own_pow (2 : Int32)))) + (d * (own_pow (1 : Int32)))))]))
    refine OGo.st (fun _ kz => XS.istore X28.here hx rfl (hb hby at_101) rfl (l' := #[.val (.int n), .val (.int a), .val (.int b), .val (.int d), .val (.int e_), .val (.int c_), .val (.int (4 : Int32)), .val (.ref b1), .val (.int ((((n * (own_pow (4 : Int32))) + (a * (own_pow (3 : Int32)))) + (b * (own_pow (2 : Int32)))) + (d * (own_pow (1 : Int32))))), .unset]) rfl kz) ?_
    show OGo p.tables e below Φ (T28.setTop (mkF m 103 #[.val (.int n), .val (.int a), .val (.int b), .val (.int d), .val (.int e_), .val (.int c_), .val (.int (4 : Int32)), .val (.ref b1), .val (.int ((((n * (own_pow (4 : Int32))) + (a * (own_pow (3 : Int32)))) + (b * (own_pow (2 : Int32)))) + (d * (own_pow (1 : Int32))))), .unset] []))
    refine OGo.st (fun _ kz => XS.iload X28.here hx rfl (hb hby at_103) rfl kz) ?_
    show OGo p.tables e below Φ (T28.setTop (mkF m 105 #[.val (.int n), .val (.int a), .val (.int b), .val (.int d), .val (.int e_), .val (.int c_), .val (.int (4 : Int32)), .val (.ref b1), .val (.int ((((n * (own_pow (4 : Int32))) + (a * (own_pow (3 : Int32)))) + (b * (own_pow (2 : Int32)))) + (d * (own_pow (1 : Int32))))), .unset] [(.int (4 : Int32))]))
    refine OGo.st (fun _ kz => XS.iconst X28.here hx rfl (hb hby at_105) kz) ?_
    show OGo p.tables e below Φ (T28.setTop (mkF m 106 #[.val (.int n), .val (.int a), .val (.int b), .val (.int d), .val (.int e_), .val (.int c_), .val (.int (4 : Int32)), .val (.ref b1), .val (.int ((((n * (own_pow (4 : Int32))) + (a * (own_pow (3 : Int32)))) + (b * (own_pow (2 : Int32)))) + (d * (own_pow (1 : Int32))))), .unset] [(.int (3 : Int32)), (.int (4 : Int32))]))
    refine OGo.st (fun _ kz => XS.icmpNo X28.here hx rfl (hb hby at_106) rfl (XT.ii_le_f (by decide)) kz) ?_
    show OGo p.tables e below Φ (T28.setTop (mkF m 109 #[.val (.int n), .val (.int a), .val (.int b), .val (.int d), .val (.int e_), .val (.int c_), .val (.int (4 : Int32)), .val (.ref b1), .val (.int ((((n * (own_pow (4 : Int32))) + (a * (own_pow (3 : Int32)))) + (b * (own_pow (2 : Int32)))) + (d * (own_pow (1 : Int32))))), .unset] []))
    refine OGo.st (fun _ kz => XS.iload X28.here hx rfl (hb hby at_109) rfl kz) ?_
    show OGo p.tables e below Φ (T28.setTop (mkF m 111 #[.val (.int n), .val (.int a), .val (.int b), .val (.int d), .val (.int e_), .val (.int c_), .val (.int (4 : Int32)), .val (.ref b1), .val (.int ((((n * (own_pow (4 : Int32))) + (a * (own_pow (3 : Int32)))) + (b * (own_pow (2 : Int32)))) + (d * (own_pow (1 : Int32))))), .unset] [(.int ((((n * (own_pow (4 : Int32))) + (a * (own_pow (3 : Int32)))) + (b * (own_pow (2 : Int32)))) + (d * (own_pow (1 : Int32)))))]))
    refine OGo.st (fun _ kz => XS.iload X28.here hx rfl (hb hby at_111) rfl kz) ?_
    show OGo p.tables e below Φ (T28.setTop (mkF m 113 #[.val (.int n), .val (.int a), .val (.int b), .val (.int d), .val (.int e_), .val (.int c_), .val (.int (4 : Int32)), .val (.ref b1), .val (.int ((((n * (own_pow (4 : Int32))) + (a * (own_pow (3 : Int32)))) + (b * (own_pow (2 : Int32)))) + (d * (own_pow (1 : Int32))))), .unset] [(.int e_), (.int ((((n * (own_pow (4 : Int32))) + (a * (own_pow (3 : Int32)))) + (b * (own_pow (2 : Int32)))) + (d * (own_pow (1 : Int32)))))]))
    refine OGo.st (fun _ kz => XS.iload X28.here hx rfl (hb hby at_113) rfl kz) ?_
    show OGo p.tables e below Φ (T28.setTop (mkF m 115 #[.val (.int n), .val (.int a), .val (.int b), .val (.int d), .val (.int e_), .val (.int c_), .val (.int (4 : Int32)), .val (.ref b1), .val (.int ((((n * (own_pow (4 : Int32))) + (a * (own_pow (3 : Int32)))) + (b * (own_pow (2 : Int32)))) + (d * (own_pow (1 : Int32))))), .unset] [(.int (4 : Int32)), (.int e_), (.int ((((n * (own_pow (4 : Int32))) + (a * (own_pow (3 : Int32)))) + (b * (own_pow (2 : Int32)))) + (d * (own_pow (1 : Int32)))))]))
    refine OGo.st (fun _ kz => XS.iconst X28.here hx rfl (hb hby at_115) kz) ?_
    show OGo p.tables e below Φ (T28.setTop (mkF m 116 #[.val (.int n), .val (.int a), .val (.int b), .val (.int d), .val (.int e_), .val (.int c_), .val (.int (4 : Int32)), .val (.ref b1), .val (.int ((((n * (own_pow (4 : Int32))) + (a * (own_pow (3 : Int32)))) + (b * (own_pow (2 : Int32)))) + (d * (own_pow (1 : Int32))))), .unset] [(.int (4 : Int32)), (.int (4 : Int32)), (.int e_), (.int ((((n * (own_pow (4 : Int32))) + (a * (own_pow (3 : Int32)))) + (b * (own_pow (2 : Int32)))) + (d * (own_pow (1 : Int32)))))]))
    refine OGo.st (fun _ kz => XS.isub X28.here hx rfl (hb hby at_116) rfl kz) ?_
    show OGo p.tables e below Φ (T28.setTop (mkF m 117 #[.val (.int n), .val (.int a), .val (.int b), .val (.int d), .val (.int e_), .val (.int c_), .val (.int (4 : Int32)), .val (.ref b1), .val (.int ((((n * (own_pow (4 : Int32))) + (a * (own_pow (3 : Int32)))) + (b * (own_pow (2 : Int32)))) + (d * (own_pow (1 : Int32))))), .unset] [(.int (0 : Int32)), (.int e_), (.int ((((n * (own_pow (4 : Int32))) + (a * (own_pow (3 : Int32)))) + (b * (own_pow (2 : Int32)))) + (d * (own_pow (1 : Int32)))))]))
    obtain ⟨_, T29, L29, X29, hQ29, st29⟩ := own_callSt X28 hx hZ hown (ow2 hw) (ow3 hw) (ow4 hw) (ow5 hw) (by decide) (rm1 l Z a0 hw [] (0 : Int32) h5 n0 Zs5 ) e28 (W := 2) (by decide) (by decide) (by decide) (by decide) (pc := 117) (ls := #[.val (.int n), .val (.int a), .val (.int b), .val (.int d), .val (.int e_), .val (.int c_), .val (.int (4 : Int32)), .val (.ref b1), .val (.int ((((n * (own_pow (4 : Int32))) + (a * (own_pow (3 : Int32)))) + (b * (own_pow (2 : Int32)))) + (d * (own_pow (1 : Int32))))), .unset]) (stk := [(.int (0 : Int32)), (.int e_), (.int ((((n * (own_pow (4 : Int32))) + (a * (own_pow (3 : Int32)))) + (b * (own_pow (2 : Int32)))) + (d * (own_pow (1 : Int32)))))]) (by rw [hml]; rfl) (argsL := [(.int (0 : Int32))]) (rest := [(.int e_), (.int ((((n * (own_pow (4 : Int32))) + (a * (own_pow (3 : Int32)))) + (b * (own_pow (2 : Int32)))) + (d * (own_pow (1 : Int32)))))]) (lenOf pd0 rfl) rfl rfl (Nat.le_of_eq rfl) (hb hby at_117)
    obtain ⟨rfl, Nq29, e29⟩ := hQ29
    have N29 := Fr.app N28 Nq29
    refine OGo.st st29 ?_
    show OGo p.tables e below Φ (T29.setTop (mkF m 120 #[.val (.int n), .val (.int a), .val (.int b), .val (.int d), .val (.int e_), .val (.int c_), .val (.int (4 : Int32)), .val (.ref b1), .val (.int ((((n * (own_pow (4 : Int32))) + (a * (own_pow (3 : Int32)))) + (b * (own_pow (2 : Int32)))) + (d * (own_pow (1 : Int32))))), .unset] [(.int (own_pow (0 : Int32))), (.int e_), (.int ((((n * (own_pow (4 : Int32))) + (a * (own_pow (3 : Int32)))) + (b * (own_pow (2 : Int32)))) + (d * (own_pow (1 : Int32)))))]))
    refine OGo.st (fun _ kz => XS.imul X29.here hx rfl (hb hby at_120) rfl kz) ?_
    show OGo p.tables e below Φ (T29.setTop (mkF m 121 #[.val (.int n), .val (.int a), .val (.int b), .val (.int d), .val (.int e_), .val (.int c_), .val (.int (4 : Int32)), .val (.ref b1), .val (.int ((((n * (own_pow (4 : Int32))) + (a * (own_pow (3 : Int32)))) + (b * (own_pow (2 : Int32)))) + (d * (own_pow (1 : Int32))))), .unset] [(.int (e_ * (own_pow (0 : Int32)))), (.int ((((n * (own_pow (4 : Int32))) + (a * (own_pow (3 : Int32)))) + (b * (own_pow (2 : Int32)))) + (d * (own_pow (1 : Int32)))))]))
    refine OGo.st (fun _ kz => XS.iadd X29.here hx rfl (hb hby at_121) rfl kz) ?_
    show OGo p.tables e below Φ (T29.setTop (mkF m 122 #[.val (.int n), .val (.int a), .val (.int b), .val (.int d), .val (.int e_), .val (.int c_), .val (.int (4 : Int32)), .val (.ref b1), .val (.int ((((n * (own_pow (4 : Int32))) + (a * (own_pow (3 : Int32)))) + (b * (own_pow (2 : Int32)))) + (d * (own_pow (1 : Int32))))), .unset] [(.int (((((n * (own_pow (4 : Int32))) + (a * (own_pow (3 : Int32)))) + (b * (own_pow (2 : Int32)))) + (d * (own_pow (1 : Int32)))) + (e_ * (own_pow (0 : Int32)))))]))
    refine OGo.st (fun _ kz => XS.istore X29.here hx rfl (hb hby at_122) rfl (l' := #[.val (.int n), .val (.int a), .val (.int b), .val (.int d), .val (.int e_), .val (.int c_), .val (.int (4 : Int32)), .val (.ref b1), .val (.int (((((n * (own_pow (4 : Int32))) + (a * (own_pow (3 : Int32)))) + (b * (own_pow (2 : Int32)))) + (d * (own_pow (1 : Int32)))) + (e_ * (own_pow (0 : Int32))))), .unset]) rfl kz) ?_
    show OGo p.tables e below Φ (T29.setTop (mkF m 124 #[.val (.int n), .val (.int a), .val (.int b), .val (.int d), .val (.int e_), .val (.int c_), .val (.int (4 : Int32)), .val (.ref b1), .val (.int (((((n * (own_pow (4 : Int32))) + (a * (own_pow (3 : Int32)))) + (b * (own_pow (2 : Int32)))) + (d * (own_pow (1 : Int32)))) + (e_ * (own_pow (0 : Int32))))), .unset] []))
    refine OGo.st (fun _ kz => XS.iloadN X29.here hx rfl (hb hby at_124) rfl kz) ?_
    show OGo p.tables e below Φ (T29.setTop (mkF m 125 #[.val (.int n), .val (.int a), .val (.int b), .val (.int d), .val (.int e_), .val (.int c_), .val (.int (4 : Int32)), .val (.ref b1), .val (.int (((((n * (own_pow (4 : Int32))) + (a * (own_pow (3 : Int32)))) + (b * (own_pow (2 : Int32)))) + (d * (own_pow (1 : Int32)))) + (e_ * (own_pow (0 : Int32))))), .unset] [(.int n)]))
    refine OGo.st (fun _ kz => XS.aload X29.here hx rfl (hb hby at_125) rfl rfl kz) ?_
    show OGo p.tables e below Φ (T29.setTop (mkF m 127 #[.val (.int n), .val (.int a), .val (.int b), .val (.int d), .val (.int e_), .val (.int c_), .val (.int (4 : Int32)), .val (.ref b1), .val (.int (((((n * (own_pow (4 : Int32))) + (a * (own_pow (3 : Int32)))) + (b * (own_pow (2 : Int32)))) + (d * (own_pow (1 : Int32)))) + (e_ * (own_pow (0 : Int32))))), .unset] [(.ref b1), (.int n)]))
    refine OGo.st (fun _ kz => XS.iload X29.here hx rfl (hb hby at_127) rfl kz) ?_
    show OGo p.tables e below Φ (T29.setTop (mkF m 129 #[.val (.int n), .val (.int a), .val (.int b), .val (.int d), .val (.int e_), .val (.int c_), .val (.int (4 : Int32)), .val (.ref b1), .val (.int (((((n * (own_pow (4 : Int32))) + (a * (own_pow (3 : Int32)))) + (b * (own_pow (2 : Int32)))) + (d * (own_pow (1 : Int32)))) + (e_ * (own_pow (0 : Int32))))), .unset] [(.int (4 : Int32)), (.ref b1), (.int n)]))
    obtain ⟨_, T30, L30, X30, hQ30, st30⟩ := own_callSt X29 hx hZ hown (ow6 hw) (ow7 hw) (ow8 hw) (ow9 hw) (by decide) (rm2_4 l Z a0 hw [] n b1 c1 a b d e_ h5 n0 Zs5 V5) e29 (W := 0) (by decide) (by decide) (by decide) (by decide) (pc := 129) (ls := #[.val (.int n), .val (.int a), .val (.int b), .val (.int d), .val (.int e_), .val (.int c_), .val (.int (4 : Int32)), .val (.ref b1), .val (.int (((((n * (own_pow (4 : Int32))) + (a * (own_pow (3 : Int32)))) + (b * (own_pow (2 : Int32)))) + (d * (own_pow (1 : Int32)))) + (e_ * (own_pow (0 : Int32))))), .unset]) (stk := [(.int (4 : Int32)), (.ref b1), (.int n)]) (by rw [hml]; rfl) (argsL := [(.int n), (.ref b1), (.int (4 : Int32))]) (rest := []) (lenOf pd1 rfl) rfl rfl (Nat.le_of_eq rfl) (hb hby at_129)
    obtain ⟨rfl, Nq30, e30⟩ := hQ30
    have N30 := Fr.app N29 Nq30
    refine OGo.st st30 ?_
    show OGo p.tables e below Φ (T30.setTop (mkF m 132 #[.val (.int n), .val (.int a), .val (.int b), .val (.int d), .val (.int e_), .val (.int c_), .val (.int (4 : Int32)), .val (.ref b1), .val (.int (((((n * (own_pow (4 : Int32))) + (a * (own_pow (3 : Int32)))) + (b * (own_pow (2 : Int32)))) + (d * (own_pow (1 : Int32)))) + (e_ * (own_pow (0 : Int32))))), .unset] [(.int (((31 : Int32) * (((31 : Int32) * (((31 : Int32) * (((31 : Int32) * n) + a)) + b)) + d)) + e_))]))
    refine OGo.st (fun _ kz => XS.istore X30.here hx rfl (hb hby at_132) rfl (l' := #[.val (.int n), .val (.int a), .val (.int b), .val (.int d), .val (.int e_), .val (.int c_), .val (.int (4 : Int32)), .val (.ref b1), .val (.int (((((n * (own_pow (4 : Int32))) + (a * (own_pow (3 : Int32)))) + (b * (own_pow (2 : Int32)))) + (d * (own_pow (1 : Int32)))) + (e_ * (own_pow (0 : Int32))))), .val (.int (((31 : Int32) * (((31 : Int32) * (((31 : Int32) * (((31 : Int32) * n) + a)) + b)) + d)) + e_))]) rfl kz) ?_
    show OGo p.tables e below Φ (T30.setTop (mkF m 134 #[.val (.int n), .val (.int a), .val (.int b), .val (.int d), .val (.int e_), .val (.int c_), .val (.int (4 : Int32)), .val (.ref b1), .val (.int (((((n * (own_pow (4 : Int32))) + (a * (own_pow (3 : Int32)))) + (b * (own_pow (2 : Int32)))) + (d * (own_pow (1 : Int32)))) + (e_ * (own_pow (0 : Int32))))), .val (.int (((31 : Int32) * (((31 : Int32) * (((31 : Int32) * (((31 : Int32) * n) + a)) + b)) + d)) + e_))] []))
    refine OGo.st (fun _ kz => XS.iload X30.here hx rfl (hb hby at_134) rfl kz) ?_
    show OGo p.tables e below Φ (T30.setTop (mkF m 136 #[.val (.int n), .val (.int a), .val (.int b), .val (.int d), .val (.int e_), .val (.int c_), .val (.int (4 : Int32)), .val (.ref b1), .val (.int (((((n * (own_pow (4 : Int32))) + (a * (own_pow (3 : Int32)))) + (b * (own_pow (2 : Int32)))) + (d * (own_pow (1 : Int32)))) + (e_ * (own_pow (0 : Int32))))), .val (.int (((31 : Int32) * (((31 : Int32) * (((31 : Int32) * (((31 : Int32) * n) + a)) + b)) + d)) + e_))] [(.int (((31 : Int32) * (((31 : Int32) * (((31 : Int32) * (((31 : Int32) * n) + a)) + b)) + d)) + e_))]))
    refine OGo.st (fun _ kz => XS.iload X30.here hx rfl (hb hby at_136) rfl kz) ?_
    show OGo p.tables e below Φ (T30.setTop (mkF m 138 #[.val (.int n), .val (.int a), .val (.int b), .val (.int d), .val (.int e_), .val (.int c_), .val (.int (4 : Int32)), .val (.ref b1), .val (.int (((((n * (own_pow (4 : Int32))) + (a * (own_pow (3 : Int32)))) + (b * (own_pow (2 : Int32)))) + (d * (own_pow (1 : Int32)))) + (e_ * (own_pow (0 : Int32))))), .val (.int (((31 : Int32) * (((31 : Int32) * (((31 : Int32) * (((31 : Int32) * n) + a)) + b)) + d)) + e_))] [(.int (((((n * (own_pow (4 : Int32))) + (a * (own_pow (3 : Int32)))) + (b * (own_pow (2 : Int32)))) + (d * (own_pow (1 : Int32)))) + (e_ * (own_pow (0 : Int32))))), (.int (((31 : Int32) * (((31 : Int32) * (((31 : Int32) * (((31 : Int32) * n) + a)) + b)) + d)) + e_))]))
    by_cases hc31 : (((31 : Int32) * (((31 : Int32) * (((31 : Int32) * (((31 : Int32) * n) + a)) + b)) + d)) + e_) = (((((n * (own_pow (4 : Int32))) + (a * (own_pow (3 : Int32)))) + (b * (own_pow (2 : Int32)))) + (d * (own_pow (1 : Int32)))) + (e_ * (own_pow (0 : Int32))))
    · refine OGo.st (fun _ kz => XS.icmpNo X30.here hx rfl (hb hby at_138) rfl (XT.ii_ne_f hc31) kz) ?_
      show OGo p.tables e below Φ (T30.setTop (mkF m 141 #[.val (.int n), .val (.int a), .val (.int b), .val (.int d), .val (.int e_), .val (.int c_), .val (.int (4 : Int32)), .val (.ref b1), .val (.int (((((n * (own_pow (4 : Int32))) + (a * (own_pow (3 : Int32)))) + (b * (own_pow (2 : Int32)))) + (d * (own_pow (1 : Int32)))) + (e_ * (own_pow (0 : Int32))))), .val (.int (((31 : Int32) * (((31 : Int32) * (((31 : Int32) * (((31 : Int32) * n) + a)) + b)) + d)) + e_))] []))
      refine OGo.st (fun _ kz => XS.iconst X30.here hx rfl (hb hby at_141) kz) ?_
      show OGo p.tables e below Φ (T30.setTop (mkF m 142 #[.val (.int n), .val (.int a), .val (.int b), .val (.int d), .val (.int e_), .val (.int c_), .val (.int (4 : Int32)), .val (.ref b1), .val (.int (((((n * (own_pow (4 : Int32))) + (a * (own_pow (3 : Int32)))) + (b * (own_pow (2 : Int32)))) + (d * (own_pow (1 : Int32)))) + (e_ * (own_pow (0 : Int32))))), .val (.int (((31 : Int32) * (((31 : Int32) * (((31 : Int32) * (((31 : Int32) * n) + a)) + b)) + d)) + e_))] [(.int (1 : Int32))]))
      refine OGo.st (fun _ kz => XS.goto X30.here hx rfl (pc0 := 142) (pc' := 146) rfl (hb hby at_142) (by decide) (by decide) kz) ?_
      show OGo p.tables e below Φ (T30.setTop (mkF m 146 #[.val (.int n), .val (.int a), .val (.int b), .val (.int d), .val (.int e_), .val (.int c_), .val (.int (4 : Int32)), .val (.ref b1), .val (.int (((((n * (own_pow (4 : Int32))) + (a * (own_pow (3 : Int32)))) + (b * (own_pow (2 : Int32)))) + (d * (own_pow (1 : Int32)))) + (e_ * (own_pow (0 : Int32))))), .val (.int (((31 : Int32) * (((31 : Int32) * (((31 : Int32) * (((31 : Int32) * n) + a)) + b)) + d)) + e_))] [(.int (1 : Int32))]))
      refine OGo.fin X30 hlk (v := (some (.int (1 : Int32)))) (fun h => by rw [hret] at h; cases h) (by decide) (by decide) (fun fs hr => X30.ireturnOut hx hret rfl (by simp) (hb hby at_146) hr) fun U eU hF => hΦ _ _ _ ?_ hF
      rw [eU, e30]
      show Q_rm0 Z n a b d e_ c_ h0 n0 _ _ _
      exact ⟨rfl, N30⟩
    · refine OGo.st (fun _ kz => XS.icmpYes X30.here hx rfl (pc0 := 138) (pc' := 145) rfl (hb hby at_138) rfl (XT.ii_ne_t hc31) (by decide) (by decide) kz) ?_
      show OGo p.tables e below Φ (T30.setTop (mkF m 145 #[.val (.int n), .val (.int a), .val (.int b), .val (.int d), .val (.int e_), .val (.int c_), .val (.int (4 : Int32)), .val (.ref b1), .val (.int (((((n * (own_pow (4 : Int32))) + (a * (own_pow (3 : Int32)))) + (b * (own_pow (2 : Int32)))) + (d * (own_pow (1 : Int32)))) + (e_ * (own_pow (0 : Int32))))), .val (.int (((31 : Int32) * (((31 : Int32) * (((31 : Int32) * (((31 : Int32) * n) + a)) + b)) + d)) + e_))] []))
      refine OGo.st (fun _ kz => XS.iconst X30.here hx rfl (hb hby at_145) kz) ?_
      show OGo p.tables e below Φ (T30.setTop (mkF m 146 #[.val (.int n), .val (.int a), .val (.int b), .val (.int d), .val (.int e_), .val (.int c_), .val (.int (4 : Int32)), .val (.ref b1), .val (.int (((((n * (own_pow (4 : Int32))) + (a * (own_pow (3 : Int32)))) + (b * (own_pow (2 : Int32)))) + (d * (own_pow (1 : Int32)))) + (e_ * (own_pow (0 : Int32))))), .val (.int (((31 : Int32) * (((31 : Int32) * (((31 : Int32) * (((31 : Int32) * n) + a)) + b)) + d)) + e_))] [(.int (0 : Int32))]))
      exact absurd (by simp only [own_pow0, own_pow1, own_pow2, own_pow3, own_pow4]; grind) hc31

set_option maxRecDepth 65536 in
set_option maxHeartbeats 40000000 in
theorem comes_1 {Post : Tables → Env → Array Value → State → Outcome → State → Prop} (hpost : ∀ tb e args s v u, (limb_1_1.after args s (.returned v) u = true ∧ limb_1_2.after args s (.returned v) u = true ∧ True) → FrameEnd s (.returned v) u (Jvm.fieldLocs frame_1_writes args s ++ Jvm.arrayLocs frame_1_arrays args s ++ Jvm.staticLocs frame_1_statics s) 16 128 → Post tb e args s (.returned v) u) :
    ArmFor flags0 classFile x code maxLocals ret World_1 tables_1 room_1 Calls_1 rest_1 Pre_1 Post := by
  intro l hfl _ _ p e ha hc hk s m args below hf hA hF happ hP
  obtain ⟨hcalls, hrest, hpre⟩ := hP
  obtain ⟨-, -, -, hnamed, -, -, -, hat⟩ := (Spec.applies_iff hf).mp happ
  obtain ⟨hg, hn⟩ := and_e (Cond.before_iff.mp (show (Jvm.Cond.and given_1 narrow_1).before args s = true from hpre))
  obtain ⟨g0, r0⟩ := and_e hg
  obtain ⟨k0, r1⟩ := and_e r0
  obtain ⟨k1, r2⟩ := and_e r1
  obtain ⟨k2, r3⟩ := and_e r2
  obtain ⟨k3, r4⟩ := and_e r3
  obtain ⟨k4, r5⟩ := and_e r4
  have k5 := r5
  obtain ⟨w0, w1, w2, w3, w4, w5, rfl⟩ : ∃ w0 w1 w2 w3 w4 w5 : Value, args = #[w0, w1, w2, w3, w4, w5] := by
    have hs : args.size = 6 := by simpa [Cond.value, given_1] using g0
    obtain ⟨L⟩ := args
    match L, hs with
    | [w0, w1, w2, w3, w4, w5], _ => exact ⟨w0, w1, w2, w3, w4, w5, rfl⟩
  have hw := fun d (hd : d ∈ tables_1) => atoms_spec (ws := Jvm.Cond.code x code maxLocals ret :: tables_1) hat d (List.mem_cons_of_mem _ hd)
  have hfit : Fit s := fun {y c} hc i hi => by
    obtain ⟨ha, rfl⟩ := Array.getElem?_eq_some_iff.mp hc
    have q := List.all_eq_true.mp ((Array.all_eq_true_iff_forall_mem.mp hF) _ (Array.getElem_mem ha)) i (List.mem_range.mpr hi)
    simpa [Array.getElem?_eq_getElem hi] using q
  obtain ⟨i0, ei0⟩ := is_v k0
  obtain rfl : w0 = (.int i0) := Option.some.inj ei0
  obtain ⟨i1, ei1⟩ := is_v k1
  obtain rfl : w1 = (.int i1) := Option.some.inj ei1
  obtain ⟨i2, ei2⟩ := is_v k2
  obtain rfl : w2 = (.int i2) := Option.some.inj ei2
  obtain ⟨i3, ei3⟩ := is_v k3
  obtain rfl : w3 = (.int i3) := Option.some.inj ei3
  obtain ⟨i4, ei4⟩ := is_v k4
  obtain rfl : w4 = (.int i4) := Option.some.inj ei4
  obtain ⟨i5, ei5⟩ := is_v k5
  obtain rfl : w5 = (.int i5) := Option.some.inj ei5
  obtain ⟨n, o, h1, h2, h3, _, L, rfl, ⟨rfl, N⟩, hq⟩ := rm0 l s _ hw tables_1 i0 i1 i2 i3 i4 i5  s.heap s.heap.size (Nat.le_refl _)  p e ha hc hk s m _ below hf ((Spec.applies_iff_loose hf).mp happ).1 ⟨rfl, State.Warmed39.refl s, rfl⟩ trivial
  refine ⟨n, _, h1, h2, h3, hpost _ _ _ _ _ _ ⟨Cond.after_iff.mpr rfl, Cond.after_iff.mpr (eq_i res_at (Term.int_eval (1)) rfl), trivial⟩ ⟨hq.1, hq.2.1, (hq.2.2.sift fun y hy => Or.inr (N y hy)).mono (by decide) (by decide)⟩⟩
theorem main_1_1 : Claimed_1_1 := comes_1 fun _ _ _ _ _ _ h hF => ⟨h.1, hF⟩
theorem main_1_2 : Claimed_1_2 := comes_1 fun _ _ _ _ _ _ h hF => ⟨h.2.1, hF⟩
end Jvm.Pilot.@@N@@
namespace Jvm.Pilot.@@N@@
open Jvm Jvm.ClassFile Sem Op Lib Jvm.Free Jvm.Stand Jvm.Pilot.@@N@@.Jvm.D
/-! MADE BY PROGRAM (witnessworld.py) out of the Statement's table words and the real class files: 11 classes; the members and pool entries that the words name. The judged class is class 1, her method 2. -/
namespace start1
open Jvm.ClassFile
def u (s : String) : CpInfo := .utf8 (stringToUtf16 s)
/-- a pool by its gaps: so many unusable entries, then the entry; so many at the end -/
def gap : Nat → List CpInfo → List CpInfo
  | 0, r => r
  | n + 1, r => .unusable :: gap n r
def poolList (es : List (Nat × CpInfo)) (last : Nat) : List CpInfo := es.foldr (fun e r => gap e.1 (e.2 :: r)) (gap last [])
def pool (es : List (Nat × CpInfo)) (last : Nat) : Array CpInfo := ⟨poolList es last⟩
def fileOf (pool : Array CpInfo) (this : Nat) (attrs : Array Attribute := #[]) (ms : Array MethodInfo := #[]) (fl : Nat := 33) (sup : Nat := 0) (ifs : Array Nat := #[]) (fds : Array FieldInfo := #[]) : ClassFile where
  minorVersion := 0
  majorVersion := 65
  constantPool := pool
  accessFlags := fl
  thisClass := this
  superClass := sup
  interfaces := ifs
  fields := fds
  methods := ms
  attributes := attrs
def plain (name : String) (sup : Option ClassId) : Class where
  name := name
  kind := .ordinary
  loader := none
  accessFlags := 33
  super := sup
  interfaces := #[]
  cf := none
  fields := #[]
  methods := #[]
  instanceTypes := #[]
  staticTypes := #[]
  resolved := #[]
  callSites := []
  init := .initialized
  statics := none
  mirror := none

def pool0 : Array CpInfo := pool [(5, u "<init>"), (0, u "()V"), (1, .class_ 10), (1, u "java/lang/Object")] 113

def k0m0 : Method := { name := "<init>", desc := "()V", sig := { parameters := [], returnType := none }, accessFlags := 1, code := none }
/-- java/lang/Object -/
def k0 : Class := { plain "java/lang/Object" none with
  accessFlags := 33
  interfaces := #[]
  cf := some (fileOf pool0 8 #[] #[{ accessFlags := 1, nameIndex := 5, descriptorIndex := 6, attributes := #[] }] 33 0 #[] #[])
  fields := #[]
  methods := #[k0m0]
  instanceTypes := #[]
  staticTypes := #[]
  resolved := Array.replicate 124 none
  statics := none }

def pool1 : Array CpInfo := pool [(2, .class_ 4), (1, u "java/lang/Object"), (0, u "<init>"), (0, u "()V"), (0, .integer 923521), (0, .integer 2147483647), (0, .methodref 10 11), (0, .class_ 12), (0, .nameAndType 13 14), (0, u "com/example/tersewire/tersewire/RecordTypeHashPinLaw"), (0, u "pow31"), (0, u "(I)I"), (0, .methodref 16 17), (0, .class_ 18), (0, .nameAndType 19 20), (0, u "com/example/tersewire/tersewire/RecordType"), (0, u "hash"), (0, u "(I[II)I"), (3, u "law"), (0, u "(IIIIII)Z")] 4

def k1m0 : Method := { name := "<init>", desc := "()V", sig := { parameters := [], returnType := none }, accessFlags := 1, code := none }
def k1c1 : Code := { maxStack := 2, maxLocals := 1, code := method_2_code, exceptionTable := #[], attributes := #[] }
def k1m1 : Method := { name := "pow31", desc := "(I)I", sig := { parameters := [.int], returnType := some .int }, accessFlags := 10, code := some k1c1 }
def k1c2 : Code := { maxStack := 4, maxLocals := 10, code := code, exceptionTable := #[], attributes := #[] }
def k1m2 : Method := { name := "law", desc := "(IIIIII)Z", sig := { parameters := [.int, .int, .int, .int, .int, .int], returnType := some .boolean }, accessFlags := 9, code := some k1c2 }
/-- com/example/tersewire/tersewire/RecordTypeHashPinLaw -/
def k1 : Class := { plain "com/example/tersewire/tersewire/RecordTypeHashPinLaw" (some 0) with
  accessFlags := 49
  interfaces := #[]
  cf := some (fileOf pool1 10 #[] #[{ accessFlags := 1, nameIndex := 5, descriptorIndex := 6, attributes := #[] }, { accessFlags := 10, nameIndex := 13, descriptorIndex := 14, attributes := #[] }, { accessFlags := 9, nameIndex := 24, descriptorIndex := 25, attributes := #[] }] 49 2 #[] #[])
  fields := #[]
  methods := #[k1m0, k1m1, k1m2]
  instanceTypes := #[]
  staticTypes := #[]
  resolved := Array.replicate 30 none
  statics := none }

def pool2 : Array CpInfo := pool [(2, .class_ 4), (1, u "java/lang/Object"), (0, u "<init>"), (0, u "()V"), (0, .class_ 8), (0, u "java/lang/Record")] 13

def k2m0 : Method := { name := "<init>", desc := "()V", sig := { parameters := [], returnType := none }, accessFlags := 4, code := none }
/-- java/lang/Record -/
def k2 : Class := { plain "java/lang/Record" (some 0) with
  accessFlags := 1057
  interfaces := #[]
  cf := some (fileOf pool2 7 #[] #[{ accessFlags := 4, nameIndex := 5, descriptorIndex := 6, attributes := #[] }] 1057 2 #[] #[])
  fields := #[]
  methods := #[k2m0]
  instanceTypes := #[]
  staticTypes := #[]
  resolved := Array.replicate 22 none
  statics := none }

def pool3 : Array CpInfo := pool [(1, .class_ 2), (0, u "com/example/tersewire/tersewire/DefinedType"), (0, .class_ 4), (0, u "java/lang/Object")] 9

/-- com/example/tersewire/tersewire/DefinedType -/
def k3 : Class := { plain "com/example/tersewire/tersewire/DefinedType" (some 0) with
  accessFlags := 1536
  interfaces := #[]
  cf := some (fileOf pool3 1 #[] #[] 1536 3 #[] #[])
  fields := #[]
  methods := #[]
  instanceTypes := #[]
  staticTypes := #[]
  resolved := Array.replicate 14 none
  statics := none }

def pool4 : Array CpInfo := pool [(2, .class_ 4), (1, u "java/lang/Record"), (3, .class_ 10), (1, u "com/example/tersewire/tersewire/RecordType"), (0, u "names"), (0, u "Ljava/util/List;"), (2, u "fieldTypes"), (0, u "[I"), (25, u "hash"), (0, u "(I[II)I"), (53, .class_ 98), (0, u "com/example/tersewire/tersewire/DefinedType")] 35

def k4c0 : Code := { maxStack := 3, maxLocals := 5, code := prog_12_method_2_code, exceptionTable := #[], attributes := #[] }
def k4m0 : Method := { name := "hash", desc := "(I[II)I", sig := { parameters := [.int, (.array .int), .int], returnType := some .int }, accessFlags := 8, code := some k4c0 }
/-- com/example/tersewire/tersewire/RecordType -/
def k4 : Class := { plain "com/example/tersewire/tersewire/RecordType" (some 2) with
  accessFlags := 48
  interfaces := #[3]
  cf := some (fileOf pool4 8 #[] #[{ accessFlags := 8, nameIndex := 42, descriptorIndex := 43, attributes := #[] }] 48 2 #[97] #[{ accessFlags := 18, nameIndex := 11, descriptorIndex := 12, attributes := #[] }, { accessFlags := 18, nameIndex := 15, descriptorIndex := 16, attributes := #[] }])
  fields := #[{ name := "names", type := (.object "java/util/List"), accessFlags := 18, slot := 0, constantValue := 0 }, { name := "fieldTypes", type := (.array .int), accessFlags := 18, slot := 1, constantValue := 0 }]
  methods := #[k4m0]
  instanceTypes := #[(.object "java/util/List"), (.array .int)]
  staticTypes := #[]
  resolved := Array.replicate 134 none
  statics := none }

def pool5 : Array CpInfo := pool [(1, u "java/lang/Cloneable"), (0, .class_ 1), (0, u "java/lang/Object"), (0, .class_ 3)] 3

/-- java/lang/Cloneable -/
def k5 : Class := { plain "java/lang/Cloneable" (some 0) with
  accessFlags := 1537
  interfaces := #[]
  cf := some (fileOf pool5 2 #[] #[] 1537 4 #[] #[])
  fields := #[]
  methods := #[]
  instanceTypes := #[]
  staticTypes := #[]
  resolved := Array.replicate 8 none
  statics := none }

def pool6 : Array CpInfo := pool [(1, u "java/io/Serializable"), (0, .class_ 1), (0, u "java/lang/Object"), (0, .class_ 3)] 3

/-- java/io/Serializable -/
def k6 : Class := { plain "java/io/Serializable" (some 0) with
  accessFlags := 1537
  interfaces := #[]
  cf := some (fileOf pool6 2 #[] #[] 1537 4 #[] #[])
  fields := #[]
  methods := #[]
  instanceTypes := #[]
  staticTypes := #[]
  resolved := Array.replicate 8 none
  statics := none }

/-- the primitive byte -/
def k7 : Class := { plain "byte" none with kind := .primitive 'B', accessFlags := 0x411 }
/-- [B -/
def k8 : Class := { plain "[B" (some 0) with kind := .array 7 .byte, interfaces := #[5, 6], accessFlags := 1041 }

/-- the primitive int -/
def k9 : Class := { plain "int" none with kind := .primitive 'I', accessFlags := 0x411 }
/-- [I -/
def k10 : Class := { plain "[I" (some 0) with kind := .array 9 .int, interfaces := #[5, 6], accessFlags := 1041 }

def heap : Heap := #[]
def classes : Array Class := #[k0, k1, k2, k3, k4, k5, k6, k7, k8, k9, k10]
def interned : List (Array UInt16 × Addr) := []
def slotsUsed : Nat := 0
def theMethod : MethodId := ⟨1, 2⟩
def args0 : Array Value := #[.int 5, .int 5, .int 5, .int 5, .int 5, .int 7]
def aboutOver (below : List Frame) : State where
  vm := { classes := classes, interned := interned.toArray }
  heap := heap
  slotsUsed := slotsUsed
  threads := #[{ frames := .invoking theMethod args0 :: below }]
def below0 : List Frame := [.native { method := ⟨0, 0⟩, args := #[] }]
def about1 : State := aboutOver below0
def p0 : Program := .bare "" "" ""
def e0 : Env := launch0.env 0 0 0
theorem w_frames : about1.frames = Frame.invoking theMethod args0 :: below0 := rfl
set_option maxRecDepth 65536 in
theorem w_args : argsFit about1.vm theMethod args0 = true := by decide +kernel
set_option maxRecDepth 65536 in
theorem w_heap : heapFits about1 = true := by decide +kernel
set_option maxRecDepth 65536 in
theorem w_runnable : about1.curStatus? = some .runnable := by decide +kernel
set_option maxRecDepth 65536 in
theorem w_alone : about1.alone = true := by decide +kernel
set_option maxRecDepth 65536 in
theorem w_named : about1.methodNamed? x = some theMethod := by decide +kernel
set_option maxRecDepth 65536 in
theorem w_hears : about1.hears theMethod below0 = true := by decide +kernel
set_option maxRecDepth 65536 in
theorem w_ripe : about1.ripe theMethod args0 below0 = true := by decide +kernel
theorem w_running : about1.status = .running := rfl
set_option maxRecDepth 65536 in
theorem w_room : about1.hasRoom e0.platform room_1 = true :=
  launch0.hasRoom_least _ room_1 (by decide +kernel) (by decide +kernel) (by decide +kernel) (by decide +kernel) (by decide +kernel) (by decide +kernel)
theorem allAtoms_all (ts : List Jvm.Cond) (a : Array Jvm.Value) (st : Jvm.State) : (allAtoms ts).before a st = ts.all (fun c => c.before a st) := by
  induction ts with
  | nil => rfl
  | cons c t ih =>
    show (Jvm.Cond.and c (allAtoms t)).before a st = _
    rw [Jvm.Cond.before_and, ih, List.all_cons]
def words1 : List Jvm.Cond := Jvm.Cond.code x code maxLocals ret :: tables_1
/-- a 'code' word, met by the world's own term for the bytes: nothing is compared byte by byte -/
theorem code_word {y : MethodName} {bytes : ByteArray} {mx : Nat} {rt : Option FieldType} {a : Array Value} {s : State} {m : MethodId} {meth : Method} {c : Code} (h1 : s.methodNamed? y = some m) (h2 : s.vm.method? m = some meth) (h3 : meth.code = some c) (h4 : c.code = bytes)
    (h5 : (c.maxLocals == mx && c.exceptionTable.isEmpty && decide (c.maxStack ≤ mostOperands) && decide (meth.sig.returnType = rt) && !meth.locks && decide (parseMethodDescriptor y.desc = some meth.sig)) = true) : (Jvm.Cond.code y bytes mx rt).before a s = true := by
  simp only [Bool.and_eq_true, beq_iff_eq, Bool.not_eq_true', decide_eq_true_eq] at h5
  obtain ⟨⟨⟨⟨⟨g1, g2⟩, g3⟩, g4⟩, g5⟩, g6⟩ := h5
  simp [Cond.before, Cond.holds, Cond.value, h1, h2, h3, h4, g1, g2, g3, g4, g5, g6]
def isCode : Jvm.Cond → Bool
  | .code _ _ _ _ => true
  | _ => false
theorem all_split {L : List Jvm.Cond} {P : Jvm.Cond → Bool} (h1 : L.all (fun c => isCode c || P c) = true) (h2 : ∀ c ∈ L.filter isCode, P c = true) : L.all P = true := by
  refine List.all_eq_true.mpr fun c hc => ?_
  have h := List.all_eq_true.mp h1 c hc
  rcases Bool.eq_false_or_eq_true (isCode c) with hi | hi
  · exact h2 c (List.mem_filter.mpr ⟨hc, hi⟩)
  · simpa [hi] using h
set_option maxRecDepth 65536 in
theorem w_c0 : (Jvm.Cond.code x code maxLocals ret).before args0 about1 = true := code_word (m := ⟨1, 2⟩) (meth := k1m2) (c := k1c2) (by decide +kernel) rfl rfl rfl (by decide +kernel)
set_option maxRecDepth 65536 in
theorem w_c1 : (Jvm.Cond.code ({ cls := "com/example/tersewire/tersewire/RecordTypeHashPinLaw", name := "pow31", desc := "(I)I" } : Jvm.MethodName) method_2_code (1 : Nat) (Option.some Jvm.ClassFile.FieldType.int)).before args0 about1 = true := code_word (m := ⟨1, 1⟩) (meth := k1m1) (c := k1c1) (by decide +kernel) rfl rfl rfl (by decide +kernel)
set_option maxRecDepth 65536 in
theorem w_c2 : (Jvm.Cond.code ({ cls := "com/example/tersewire/tersewire/RecordType", name := "hash", desc := "(I[II)I" } : Jvm.MethodName) prog_12_method_2_code (5 : Nat) (Option.some Jvm.ClassFile.FieldType.int)).before args0 about1 = true := code_word (m := ⟨4, 0⟩) (meth := k4m0) (c := k4c0) (by decide +kernel) rfl rfl rfl (by decide +kernel)
def codes1 : List Jvm.Cond := [Jvm.Cond.code x code maxLocals ret, Jvm.Cond.code ({ cls := "com/example/tersewire/tersewire/RecordTypeHashPinLaw", name := "pow31", desc := "(I)I" } : Jvm.MethodName) method_2_code (1 : Nat) (Option.some Jvm.ClassFile.FieldType.int), Jvm.Cond.code ({ cls := "com/example/tersewire/tersewire/RecordType", name := "hash", desc := "(I[II)I" } : Jvm.MethodName) prog_12_method_2_code (5 : Nat) (Option.some Jvm.ClassFile.FieldType.int)]
set_option maxRecDepth 65536 in
theorem codes_eq : words1.filter isCode = codes1 := rfl
theorem w_codes : ∀ c ∈ words1.filter isCode, c.before args0 about1 = true := by
  rw [codes_eq]
  intro c hc
  simp only [codes1, List.mem_cons, List.not_mem_nil, or_false] at hc
  rcases hc with rfl | rfl | rfl
  · exact w_c0
  · exact w_c1
  · exact w_c2
set_option maxRecDepth 65536 in
theorem w_t1 : words1.all (fun c => isCode c || c.before args0 about1) = true := by decide +kernel
theorem w_tables : (allAtoms (Jvm.Cond.code x code maxLocals ret :: tables_1)).before args0 about1 = true := by
  rw [allAtoms_all]
  show words1.all (fun c => c.before args0 about1) = true
  refine all_split ?_ w_codes
  rw [w_t1]
set_option maxRecDepth 65536 in
theorem w_case : (Jvm.Cond.and given_1 narrow_1).before args0 about1 = true := by decide +kernel
theorem w_applies : (headSpec (Jvm.Cond.code x code maxLocals ret :: tables_1) room_1).applies x e0.platform about1 = true :=
  (Spec.applies_iff w_frames).mpr ⟨w_running, w_runnable, w_alone, w_named, w_hears, w_ripe, w_room, w_tables⟩
theorem atStart : AtStart classFile x code maxLocals ret World_1 tables_1 room_1 Calls_1 rest_1 Pre_1 launch0 p0 e0 about1 theMethod args0 below0 :=
  ⟨lists_1, trivial, launch0.admits_env _ _ _, launch0.least_env, fairChoices_fair.cas, fairChoices_fair.clock, w_frames, w_args, w_heap, w_applies, trivial, trivial, w_case⟩
end start1
theorem witness_1 : WitnessClaimed_1 := ⟨start1.p0, start1.e0, start1.about1, start1.theMethod, start1.args0, start1.below0, start1.atStart⟩
end Jvm.Pilot.@@N@@
