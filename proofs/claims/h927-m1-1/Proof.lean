import JvmDerived
import JvmDerived.Pilot.@@N@@Statement
import JvmDerived.Pilot.@@N@@Code
set_option linter.unusedVariables false
set_option linter.unusedSimpArgs false
namespace Jvm.Pilot.@@N@@
open Jvm Jvm.ClassFile Sem Op Lib Jvm.Free Jvm.Stand Jvm.LawKit Jvm.RoadKit Bundle Jvm.Pilot.@@N@@.Jvm.D
section Own
variable {p : Program} {l : Launch} {e : Env} {R : Room} {s : State} {m : MethodId} {args : Array Value} {below : List Frame} {meth : Method} {c : Code} {T : State} {locs : List Loc} {cells slots : Nat} {Z : State} {a0 : Array Value} {h : Heap} {Φ : Outcome → State → Prop}
/-- what is left of a walk: from S the invocation ends as Φ says -/
def OGo (tb : Tables) (e : Env) (below : List Frame) (Φ : Outcome → State → Prop) (S : State) : Prop := ∃ s₂ o, Steps tb e below S s₂ ∧ s₂.status = .running ∧ Ended s₂ below o ∧ Φ o s₂
theorem OGo.st {tb : Tables} {S S' : State} (h : ∀ t, Steps tb e below S' t → Steps tb e below S t) (g : OGo tb e below Φ S') : OGo tb e below Φ S := by
  obtain ⟨s₂, o, h1, r⟩ := g
  exact ⟨s₂, o, h _ h1, r⟩
theorem OGo.fin (X : Stand p l e R s m args below meth c T locs cells slots) (hlk : meth.locks = false) {v : Option Value} (hv : meth.sig.returnType = none → v = none) {g : JFrame} {k n : Nat} (hk : cells ≤ k) (hn : slots ≤ n)
    (st : ∀ fs, (∀ (f : JFrame) (acts : List Action), f.method = m → f.locked = none → f.entered = [] → (doReturn e (T.setTop f) acts v).1 = T.setFrames fs) → Steps p.tables e below (T.setTop g) (T.setFrames fs))
    (hq : ∀ U, U.heap = T.heap → FrameEnd s (.returned v) U locs k n → Φ (.returned v) U) : OGo p.tables e below Φ (T.setTop g) := by
  obtain ⟨fs, hr, hrun, hended, hW, hsame⟩ := X.leave (v := v) hv hlk
  exact ⟨_, _, st fs hr, hrun, hended, hq _ rfl ⟨⟨_, rfl⟩, hW, hsame.mono hk hn⟩⟩
/-- a contract: what every body's theorem says -/
abbrev OCon (l : Launch) (Z : State) (y : MethodName) (bytes : ByteArray) (maxL : Nat) (ret : Option FieldType) (ws : List Jvm.Cond) (rm : Room) (as' : Array Value) (h0 : Heap) (Q : Option Value → Heap → List Loc → Prop) : Prop :=
  MetFree l y (head1 (Jvm.Cond.code y bytes maxL ret :: ws) rm) (fun a U => a = as' ∧ Z.Warmed39 U.vm ∧ U.heap = h0) (fun _ _ _ _ _ => True) (fun _ U o U' => ∃ v L, o = .returned v ∧ Q v U'.heap L ∧ FrameEnd U o U' L rm.cells rm.slots)
theorem OCon.of {y : MethodName} {bytes : ByteArray} {maxL : Nat} {ret : Option FieldType} {ws : List Jvm.Cond} {rm : Room} {as' : Array Value} {h0 : Heap} {Q : Option Value → Heap → List Loc → Prop} (hpn : plainName y.cls = true)
    (H : ∀ (p : Program) (e : Env) (s : State) (m : MethodId) (below : List Frame) (meth : Method) (c : Code) (s₁ : State) (Φ : Outcome → State → Prop), Stand p l e rm s m as' below meth c s₁ [] 0 0 → p.tables.exec = Jvm.exec → c.code = bytes → c.maxLocals = maxL → s.vm.findClass y.cls = some m.cls → meth.name = y.name → meth.sig.returnType = ret → meth.locks = false → Z.Warmed39 s.vm → s₁.heap = h0 →
      (∀ v L U, Q v U.heap L → FrameEnd s (.returned v) U L rm.cells rm.slots → Φ (.returned v) U) → OGo p.tables e below Φ (s₁.setTop (entryFrame m as' maxL))) :
    OCon l Z y bytes maxL ret ws rm as' h0 Q := by
  refine MetFree.of_bodySF (plainFor_of_name hpn) hisR ?_
  intro p e s m args below meth c s₁ Bd hml0 hP hK
  obtain ⟨rfl, hZ, hh⟩ := hP
  have e0 : s₁.heap = h0 := by rw [← hh, Bd.state]; rfl
  exact H p e s m below meth c s₁ _ (Stand.of_body Bd) Bd.exec Bd.bytes hml0 (findClass_of_methodNamed Bd.named) (name_of_methodNamed Bd.named Bd.method).1 Bd.returns Bd.notSynchronized hZ e0 (fun v L U hq hf => ⟨v, L, rfl, hq, hf⟩)
theorem own_callSt (X : Stand p l e R s m args below meth c T locs cells slots) (hx : p.tables.exec = Jvm.exec) (hZ : Z.Warmed39 s.vm) {own : String} {index : Nat} {y : MethodName} {bytes : ByteArray} {maxL : Nat} {ret : Option FieldType} {rm : Room} {as' : Array Value} {Q : Option Value → Heap → List Loc → Prop}
    (hown : s.vm.findClass own = some m.cls) (w1 : (Jvm.Cond.methodLink own index y).before a0 Z = true) (w2 : (Jvm.Cond.static y).before a0 Z = true) (w3 : (Jvm.Cond.initialized y.cls).before a0 Z = true) (w4 : (Jvm.Cond.code y bytes maxL ret).before a0 Z = true) (hy : y.cls ≠ "java/lang/invoke/MethodHandle" ∧ y.cls ≠ "java/lang/invoke/VarHandle")
    (hM : OCon l Z y bytes maxL ret [] rm as' h Q) (eT : T.heap = h) {W : Nat} (hf : rm.frames + 1 ≤ R.frames) (hl : W + (maxL + 11) + rm.locals ≤ R.locals) (hcl : cells + rm.cells ≤ R.cells) (hsl : slots + rm.slots ≤ R.slots)
    {pc : Nat} {ls : Array Slot} {stk : List Value} (hsize : ls.size = c.maxLocals) {argsL rest : List Value} (hlen : ∀ sig, parseMethodDescriptor y.desc = some sig → argsL.length = sig.parameters.length) (has : argsL.toArray = as') (hstack : stk = argsL.reverse ++ rest) (hW : (rest.map fun v => v.category).sum ≤ W)
    (hd : decode c.code pc = .ok (.invokestatic index, 3)) :
    ∃ v T' L, Stand p l e R s m args below meth c T' (locs ++ L) (cells + rm.cells) (slots + rm.slots) ∧ Q v T'.heap L ∧ ∀ target, Steps p.tables e below (T'.setTop (mkF m (pc + 3) ls (v.toList ++ rest))) target → Steps p.tables e below (T.setTop (mkF m pc ls stk)) target := by
  subst has
  obtain ⟨v, vm₁, ⟨T', L', k', n'⟩, -, X', ⟨L, hQ, l1, y1, z1⟩, st⟩ := Jvm.LawKit.callS X hx (y := y) hown (mvT hZ w1) (mvT hZ w2) (mvT hZ w3) (mvT hZ w4) hy (backOf (W := W) hM hZ w4 w3 hf hl) (g := mkF m pc ls stk) rfl hsize (argsL := argsL) (rest := rest) hlen hstack (by simpa using hW) hd (fun _ _ => ⟨rfl, eT, hcl, hsl⟩)
  dsimp only [Pt.U, Pt.locs, Pt.cells, Pt.slots] at X' l1 y1 z1 st hQ
  subst l1 y1 z1
  exact ⟨v, T', L, X', hQ, st⟩
theorem own_callSp (X : Stand p l e R s m args below meth c T locs cells slots) (hx : p.tables.exec = Jvm.exec) (hZ : Z.Warmed39 s.vm) {own : String} {index : Nat} {y : MethodName} {bytes : ByteArray} {maxL : Nat} {rm : Room} {as' : Array Value} {Q : Option Value → Heap → List Loc → Prop}
    (hy1 : y.name = "<init>") (hown : s.vm.findClass own = some m.cls) (w1 : (Jvm.Cond.methodLink own index y).before a0 Z = true) (w2 : (Jvm.Cond.instanceMethod y).before a0 Z = true) (w3 : (Jvm.Cond.initialized y.cls).before a0 Z = true) (w4 : (Jvm.Cond.code y bytes maxL none).before a0 Z = true) (hy : y.cls ≠ "java/lang/invoke/MethodHandle" ∧ y.cls ≠ "java/lang/invoke/VarHandle")
    (hM : OCon l Z y bytes maxL none [] rm as' h Q) (eT : T.heap = h) {W : Nat} (hf : rm.frames + 1 ≤ R.frames) (hl : W + (maxL + 11) + rm.locals ≤ R.locals) (hcl : cells + rm.cells ≤ R.cells) (hsl : slots + rm.slots ≤ R.slots)
    {pc : Nat} {ls : Array Slot} {stk : List Value} (hsize : ls.size = c.maxLocals) {a : Addr} {argsL rest : List Value} (hlen : ∀ sig, parseMethodDescriptor y.desc = some sig → argsL.length = sig.parameters.length) (has : (.ref a :: argsL).toArray = as') (hstack : stk = argsL.reverse ++ .ref a :: rest) (hW : (rest.map fun v => v.category).sum ≤ W)
    (hd : decode c.code pc = .ok (.invokespecial index, 3)) :
    ∃ v T' L, Stand p l e R s m args below meth c T' (locs ++ L) (cells + rm.cells) (slots + rm.slots) ∧ Q v T'.heap L ∧ ∀ target, Steps p.tables e below (T'.setTop (mkF m (pc + 3) ls (v.toList ++ rest))) target → Steps p.tables e below (T.setTop (mkF m pc ls stk)) target := by
  subst has
  obtain ⟨v, vm₁, ⟨T', L', k', n'⟩, -, X', ⟨L, hQ, l1, y1, z1⟩, st⟩ := X.specialBack hx (y := y) hy1 hown (mvT hZ w1) (mvT hZ w2) (mvT hZ w4) hy (backOf (W := W) hM hZ w4 w3 hf hl) (g := mkF m pc ls stk) rfl hsize (Steps.refl _) (a := a) (argsL := argsL) (rest := rest) hlen hstack (by simpa using hW) hd (fun _ _ => ⟨rfl, eT, hcl, hsl⟩)
  dsimp only [Pt.U, Pt.locs, Pt.cells, Pt.slots] at X' l1 y1 z1 st hQ
  subst l1 y1 z1
  exact ⟨v, T', L, X', hQ, fun t k => st.trans k⟩
theorem own_callVi (X : Stand p l e R s m args below meth c T locs cells slots) (hx : p.tables.exec = Jvm.exec) (hZ : Z.Warmed39 s.vm) {own C : String} {index : Nat} {y z : MethodName} {bytes : ByteArray} {maxL : Nat} {ret : Option FieldType} {rm : Room} {as' : Array Value} {Q : Option Value → Heap → List Loc → Prop}
    (hown : s.vm.findClass own = some m.cls) (w1 : (Jvm.Cond.methodLink own index y).before a0 Z = true) (w2 : (Jvm.Cond.declares y).before a0 Z = true) (nf : NotFace s y) (w3 : (Jvm.Cond.selects C y z).before a0 Z = true) (w4 : (Jvm.Cond.instanceMethod z).before a0 Z = true) (w5 : (Jvm.Cond.initialized z.cls).before a0 Z = true) (w6 : (Jvm.Cond.code z bytes maxL ret).before a0 Z = true) (hy : y.cls ≠ "java/lang/invoke/MethodHandle" ∧ y.cls ≠ "java/lang/invoke/VarHandle")
    (hM : OCon l Z z bytes maxL ret [] rm as' h Q) (eT : T.heap = h) {W : Nat} (hf : rm.frames + 1 ≤ R.frames) (hl : W + (maxL + 11) + rm.locals ≤ R.locals) (hcl : cells + rm.cells ≤ R.cells) (hsl : slots + rm.slots ≤ R.slots) {a : Addr} (E : Exa Z h a C)
    {pc : Nat} {ls : Array Slot} {stk : List Value} (hsize : ls.size = c.maxLocals) {argsL rest : List Value} (hlen : ∀ sig, parseMethodDescriptor y.desc = some sig → argsL.length = sig.parameters.length) (has : (.ref a :: argsL).toArray = as') (hstack : stk = argsL.reverse ++ .ref a :: rest) (hW : (rest.map fun v => v.category).sum ≤ W)
    (hd : decode c.code pc = .ok (.invokevirtual index, 3)) :
    ∃ v T' L, Stand p l e R s m args below meth c T' (locs ++ L) (cells + rm.cells) (slots + rm.slots) ∧ Q v T'.heap L ∧ ∀ target, Steps p.tables e below (T'.setTop (mkF m (pc + 3) ls (v.toList ++ rest))) target → Steps p.tables e below (T.setTop (mkF m pc ls stk)) target := by
  subst has
  obtain ⟨cq, kq, qa, qb, qc⟩ := isOf hZ eT E
  obtain ⟨v, vm₁, ⟨T', L', k', n'⟩, -, X', ⟨L, hQ, l1, y1, z1⟩, st⟩ := X.virtualBack hx (y := y) (z := z) hown (mvT hZ w1) (mvT hZ w2) nf (mvT hZ w3) (mvT hZ w4) hy (backOf (W := W) hM hZ w6 w5 hf hl) qa qc (g := mkF m pc ls stk) rfl hsize (Steps.refl _) (argsL := argsL) (rest := rest) hlen hstack (by simpa using hW) hd (fun _ _ => ⟨rfl, eT, hcl, hsl⟩)
  dsimp only [Pt.U, Pt.locs, Pt.cells, Pt.slots] at X' l1 y1 z1 st hQ
  subst l1 y1 z1
  exact ⟨v, T', L, X', hQ, fun t k => st.trans k⟩
theorem own_nz {x : Int32} (q : x = 0 ∨ x = 1) : narrow .boolean (.int x) = .int x := by rcases q with rfl | rfl <;> rfl
theorem own_fz {x : Int32} (q : x = 0 ∨ x = 1) : fits .boolean (.int x) = true := by rcases q with rfl | rfl <;> rfl
theorem own_irr (x : Int32) : ¬ x < x := fun q => absurd (Int32.lt_iff_toInt_lt.mp q) (Int.lt_irrefl _)
theorem own_irrL (x : Int64) : ¬ x < x := fun q => absurd (Int64.lt_iff_toInt_lt.mp q) (Int.lt_irrefl _)
/-- a small int is one of the first n -/
theorem own_small {n : Nat} (hn : n < 2 ^ 31) (x : Int32) (h0 : ¬ x < 0) (h1 : x.toInt < n) : ∃ k : Fin n, x = Int32.ofInt k.val := by
  have h2 : 0 ≤ x.toInt := by
    rcases Int.lt_or_le x.toInt 0 with q | q
    · exact absurd (Int32.lt_iff_toInt_lt.mpr q) h0
    · exact q
  refine ⟨⟨x.toInt.toNat, by omega⟩, ?_⟩
  rw [Int.toNat_of_nonneg h2, Int32.ofInt_toInt]
end Own
theorem ow0 {Z : State} {a0 : Array Value} (hw : ∀ d ∈ tables_1, d.before a0 Z = true) : (Jvm.Cond.methodLink "com/example/bindery/bindery/io/XmlFilesIsTextPinLaw" (7 : Nat) ({ cls := "com/example/bindery/bindery/io/XmlFiles", name := "isText", desc := "(I)Z" } : Jvm.MethodName)).before a0 Z = true := hw _ (List.mem_of_getElem? (i := 0) rfl)
theorem ow1 {Z : State} {a0 : Array Value} (hw : ∀ d ∈ tables_1, d.before a0 Z = true) : (Jvm.Cond.static ({ cls := "com/example/bindery/bindery/io/XmlFiles", name := "isText", desc := "(I)Z" } : Jvm.MethodName)).before a0 Z = true := hw _ (List.mem_of_getElem? (i := 1) rfl)
theorem ow2 {Z : State} {a0 : Array Value} (hw : ∀ d ∈ tables_1, d.before a0 Z = true) : (Jvm.Cond.initialized "com/example/bindery/bindery/io/XmlFiles").before a0 Z = true := hw _ (List.mem_of_getElem? (i := 2) rfl)
theorem ow3 {Z : State} {a0 : Array Value} (hw : ∀ d ∈ tables_1, d.before a0 Z = true) : (Jvm.Cond.code ({ cls := "com/example/bindery/bindery/io/XmlFiles", name := "isText", desc := "(I)Z" } : Jvm.MethodName) prog_46_method_10_code (1 : Nat) (Option.some Jvm.ClassFile.FieldType.boolean)).before a0 Z = true := hw _ (List.mem_of_getElem? (i := 3) rfl)
theorem ow4 {Z : State} {a0 : Array Value} (hw : ∀ d ∈ tables_1, d.before a0 Z = true) : (Jvm.Cond.methodLink "com/example/bindery/bindery/io/XmlFilesIsTextPinLaw" (13 : Nat) ({ cls := "com/example/bindery/bindery/io/XmlFilesIsTextPinLaw", name := "textKind", desc := "(I)Z" } : Jvm.MethodName)).before a0 Z = true := hw _ (List.mem_of_getElem? (i := 4) rfl)
theorem ow5 {Z : State} {a0 : Array Value} (hw : ∀ d ∈ tables_1, d.before a0 Z = true) : (Jvm.Cond.static ({ cls := "com/example/bindery/bindery/io/XmlFilesIsTextPinLaw", name := "textKind", desc := "(I)Z" } : Jvm.MethodName)).before a0 Z = true := hw _ (List.mem_of_getElem? (i := 5) rfl)
theorem ow6 {Z : State} {a0 : Array Value} (hw : ∀ d ∈ tables_1, d.before a0 Z = true) : (Jvm.Cond.initialized "com/example/bindery/bindery/io/XmlFilesIsTextPinLaw").before a0 Z = true := hw _ (List.mem_of_getElem? (i := 6) rfl)
theorem ow7 {Z : State} {a0 : Array Value} (hw : ∀ d ∈ tables_1, d.before a0 Z = true) : (Jvm.Cond.code ({ cls := "com/example/bindery/bindery/io/XmlFilesIsTextPinLaw", name := "textKind", desc := "(I)Z" } : Jvm.MethodName) method_2_code (1 : Nat) (Option.some Jvm.ClassFile.FieldType.boolean)).before a0 Z = true := hw _ (List.mem_of_getElem? (i := 7) rfl)
def own_isText (x : Int32) : Int32 := if x = 4 then 1 else if x = 12 then 1 else if x = 6 then 1 else 0
def own_textKind (x : Int32) : Int32 := if x < 0 then 0 else if x < 32 then (if (XT.ushr 4176 x) &&& 1 = 0 then 0 else 1) else 0
theorem own_same (x : Int32) : own_isText x = own_textKind x := by
  by_cases h0 : x < 0
  · have h4 : ¬ x = 4 := fun q => by rw [q] at h0; exact absurd h0 (by decide)
    have h12 : ¬ x = 12 := fun q => by rw [q] at h0; exact absurd h0 (by decide)
    have h6 : ¬ x = 6 := fun q => by rw [q] at h0; exact absurd h0 (by decide)
    simp [own_isText, own_textKind, h0, h4, h12, h6]
  · by_cases h1 : x < 32
    · have e : (32 : Int32).toInt = 32 := by decide
      obtain ⟨k, rfl⟩ := own_small (n := 32) (by decide) x h0 (by rw [Int32.lt_iff_toInt_lt, e] at h1; exact h1)
      clear h0 h1 e
      revert k
      decide
    · have h4 : ¬ x = 4 := fun q => by rw [q] at h1; exact absurd (by decide) h1
      have h12 : ¬ x = 12 := fun q => by rw [q] at h1; exact absurd (by decide) h1
      have h6 : ¬ x = 6 := fun q => by rw [q] at h1; exact absurd (by decide) h1
      simp [own_isText, own_textKind, h0, h1, h4, h12, h6]

theorem pn0 : plainName "com/example/bindery/bindery/io/XmlFiles" = true := by first | (simp [plainName, overriddenIn]; done) | decide +kernel
theorem d_prog_46_method_10_0 : decode prog_46_method_10_code 0 = .ok (.iload_n 0, 1) := by decide +kernel
theorem d_prog_46_method_10_1 : decode prog_46_method_10_code 1 = .ok (.iconst 4, 1) := by decide +kernel
theorem d_prog_46_method_10_2 : decode prog_46_method_10_code 2 = .ok (.if_icmp .eq 15, 3) := by decide +kernel
theorem d_prog_46_method_10_17 : decode prog_46_method_10_code 17 = .ok (.iconst 1, 1) := by decide +kernel
theorem d_prog_46_method_10_18 : decode prog_46_method_10_code 18 = .ok (.goto 4, 3) := by decide +kernel
theorem d_prog_46_method_10_22 : decode prog_46_method_10_code 22 = .ok (.ireturn, 1) := by decide +kernel
theorem d_prog_46_method_10_5 : decode prog_46_method_10_code 5 = .ok (.iload_n 0, 1) := by decide +kernel
theorem d_prog_46_method_10_6 : decode prog_46_method_10_code 6 = .ok (.bipush 12, 2) := by decide +kernel
theorem d_prog_46_method_10_8 : decode prog_46_method_10_code 8 = .ok (.if_icmp .eq 9, 3) := by decide +kernel
theorem d_prog_46_method_10_11 : decode prog_46_method_10_code 11 = .ok (.iload_n 0, 1) := by decide +kernel
theorem d_prog_46_method_10_12 : decode prog_46_method_10_code 12 = .ok (.bipush 6, 2) := by decide +kernel
theorem d_prog_46_method_10_14 : decode prog_46_method_10_code 14 = .ok (.if_icmp .ne 7, 3) := by decide +kernel
theorem d_prog_46_method_10_21 : decode prog_46_method_10_code 21 = .ok (.iconst 0, 1) := by decide +kernel
theorem ef_rm1 (m : MethodId) (x0 : Int32) : entryFrame m #[(.int x0)] 1 = mkF m 0 #[.val (.int x0)] [] := by first | (simp [entryFrame, mkF, argsToLocals, Value.category]; done) | rfl
def Q_rm1 (Z : State) (x : Int32) (h0 : Heap) (n0 : Nat) (v : Option Value) (h : Heap) (L : List Loc) : Prop := v = some (.int (own_isText x)) ∧ Fr n0 L ∧ h = h0
set_option maxRecDepth 65536 in
set_option maxHeartbeats 40000000 in
theorem rm1 (l : Launch) (Z : State) (a0 : Array Value) (hw : ∀ d ∈ tables_1, d.before a0 Z = true) (ws : List Jvm.Cond) (x : Int32) (h0 : Heap) (n0 : Nat) (Z0 : n0 ≤ h0.size)  :
    OCon l Z (⟨"com/example/bindery/bindery/io/XmlFiles", "isText", "(I)Z"⟩ : MethodName) prog_46_method_10_code 1 (some .boolean) ws ({ frames := 0, cells := 0, slots := 0, locals := 0 } : Room) #[(.int x)] h0 (Q_rm1 Z x h0 n0) := by
  refine OCon.of pn0 ?_
  intro p e s m below meth c s₁ Φ X0 hx hby hml hown hnm hret hlk hZ e0 hΦ
  have N0 := Fr.nil n0
  refine OGo.st (fun _ k => castTop (ef_rm1 m x) k) ?_
  show OGo p.tables e below Φ (s₁.setTop (mkF m 0 #[.val (.int x)] []))
  refine OGo.st (fun _ k => XS.iloadN X0.here hx rfl (hb hby d_prog_46_method_10_0) rfl k) ?_
  show OGo p.tables e below Φ (s₁.setTop (mkF m 1 #[.val (.int x)] [(.int x)]))
  refine OGo.st (fun _ k => XS.iconst X0.here hx rfl (hb hby d_prog_46_method_10_1) k) ?_
  show OGo p.tables e below Φ (s₁.setTop (mkF m 2 #[.val (.int x)] [(.int (4 : Int32)), (.int x)]))
  by_cases hc1 : x = (4 : Int32)
  · refine OGo.st (fun _ k => XS.icmpYes X0.here hx rfl (pc0 := 2) (pc' := 17) rfl (hb hby d_prog_46_method_10_2) rfl (XT.ii_eq_t hc1) (by decide) (by decide) k) ?_
    show OGo p.tables e below Φ (s₁.setTop (mkF m 17 #[.val (.int x)] []))
    refine OGo.st (fun _ k => XS.iconst X0.here hx rfl (hb hby d_prog_46_method_10_17) k) ?_
    show OGo p.tables e below Φ (s₁.setTop (mkF m 18 #[.val (.int x)] [(.int (1 : Int32))]))
    refine OGo.st (fun _ k => XS.goto X0.here hx rfl (pc0 := 18) (pc' := 22) rfl (hb hby d_prog_46_method_10_18) (by decide) (by decide) k) ?_
    show OGo p.tables e below Φ (s₁.setTop (mkF m 22 #[.val (.int x)] [(.int (1 : Int32))]))
    refine OGo.fin X0 hlk (v := (some (.int (1 : Int32)))) (fun h => by rw [hret] at h; cases h) (by decide) (by decide) (fun fs hr => X0.ireturnOut hx hret rfl (by simp) (hb hby d_prog_46_method_10_22) hr) fun U eU hF => hΦ _ _ _ ?_ hF
    rw [eU, e0]
    show Q_rm1 Z x h0 n0 _ _ _
    exact ⟨by simp [own_isText, hc1], N0, rfl⟩
  · refine OGo.st (fun _ k => XS.icmpNo X0.here hx rfl (hb hby d_prog_46_method_10_2) rfl (XT.ii_eq_f hc1) k) ?_
    show OGo p.tables e below Φ (s₁.setTop (mkF m 5 #[.val (.int x)] []))
    refine OGo.st (fun _ k => XS.iloadN X0.here hx rfl (hb hby d_prog_46_method_10_5) rfl k) ?_
    show OGo p.tables e below Φ (s₁.setTop (mkF m 6 #[.val (.int x)] [(.int x)]))
    refine OGo.st (fun _ k => XS.bipush X0.here hx rfl (hb hby d_prog_46_method_10_6) k) ?_
    show OGo p.tables e below Φ (s₁.setTop (mkF m 8 #[.val (.int x)] [(.int (12 : Int32)), (.int x)]))
    by_cases hc2 : x = (12 : Int32)
    · refine OGo.st (fun _ k => XS.icmpYes X0.here hx rfl (pc0 := 8) (pc' := 17) rfl (hb hby d_prog_46_method_10_8) rfl (XT.ii_eq_t hc2) (by decide) (by decide) k) ?_
      show OGo p.tables e below Φ (s₁.setTop (mkF m 17 #[.val (.int x)] []))
      refine OGo.st (fun _ k => XS.iconst X0.here hx rfl (hb hby d_prog_46_method_10_17) k) ?_
      show OGo p.tables e below Φ (s₁.setTop (mkF m 18 #[.val (.int x)] [(.int (1 : Int32))]))
      refine OGo.st (fun _ k => XS.goto X0.here hx rfl (pc0 := 18) (pc' := 22) rfl (hb hby d_prog_46_method_10_18) (by decide) (by decide) k) ?_
      show OGo p.tables e below Φ (s₁.setTop (mkF m 22 #[.val (.int x)] [(.int (1 : Int32))]))
      refine OGo.fin X0 hlk (v := (some (.int (1 : Int32)))) (fun h => by rw [hret] at h; cases h) (by decide) (by decide) (fun fs hr => X0.ireturnOut hx hret rfl (by simp) (hb hby d_prog_46_method_10_22) hr) fun U eU hF => hΦ _ _ _ ?_ hF
      rw [eU, e0]
      show Q_rm1 Z x h0 n0 _ _ _
      exact ⟨by simp [own_isText, hc1, hc2], N0, rfl⟩
    · refine OGo.st (fun _ k => XS.icmpNo X0.here hx rfl (hb hby d_prog_46_method_10_8) rfl (XT.ii_eq_f hc2) k) ?_
      show OGo p.tables e below Φ (s₁.setTop (mkF m 11 #[.val (.int x)] []))
      refine OGo.st (fun _ k => XS.iloadN X0.here hx rfl (hb hby d_prog_46_method_10_11) rfl k) ?_
      show OGo p.tables e below Φ (s₁.setTop (mkF m 12 #[.val (.int x)] [(.int x)]))
      refine OGo.st (fun _ k => XS.bipush X0.here hx rfl (hb hby d_prog_46_method_10_12) k) ?_
      show OGo p.tables e below Φ (s₁.setTop (mkF m 14 #[.val (.int x)] [(.int (6 : Int32)), (.int x)]))
      by_cases hc3 : x = (6 : Int32)
      · refine OGo.st (fun _ k => XS.icmpNo X0.here hx rfl (hb hby d_prog_46_method_10_14) rfl (XT.ii_ne_f hc3) k) ?_
        show OGo p.tables e below Φ (s₁.setTop (mkF m 17 #[.val (.int x)] []))
        refine OGo.st (fun _ k => XS.iconst X0.here hx rfl (hb hby d_prog_46_method_10_17) k) ?_
        show OGo p.tables e below Φ (s₁.setTop (mkF m 18 #[.val (.int x)] [(.int (1 : Int32))]))
        refine OGo.st (fun _ k => XS.goto X0.here hx rfl (pc0 := 18) (pc' := 22) rfl (hb hby d_prog_46_method_10_18) (by decide) (by decide) k) ?_
        show OGo p.tables e below Φ (s₁.setTop (mkF m 22 #[.val (.int x)] [(.int (1 : Int32))]))
        refine OGo.fin X0 hlk (v := (some (.int (1 : Int32)))) (fun h => by rw [hret] at h; cases h) (by decide) (by decide) (fun fs hr => X0.ireturnOut hx hret rfl (by simp) (hb hby d_prog_46_method_10_22) hr) fun U eU hF => hΦ _ _ _ ?_ hF
        rw [eU, e0]
        show Q_rm1 Z x h0 n0 _ _ _
        exact ⟨by simp [own_isText, hc1, hc2, hc3], N0, rfl⟩
      · refine OGo.st (fun _ k => XS.icmpYes X0.here hx rfl (pc0 := 14) (pc' := 21) rfl (hb hby d_prog_46_method_10_14) rfl (XT.ii_ne_t hc3) (by decide) (by decide) k) ?_
        show OGo p.tables e below Φ (s₁.setTop (mkF m 21 #[.val (.int x)] []))
        refine OGo.st (fun _ k => XS.iconst X0.here hx rfl (hb hby d_prog_46_method_10_21) k) ?_
        show OGo p.tables e below Φ (s₁.setTop (mkF m 22 #[.val (.int x)] [(.int (0 : Int32))]))
        refine OGo.fin X0 hlk (v := (some (.int (0 : Int32)))) (fun h => by rw [hret] at h; cases h) (by decide) (by decide) (fun fs hr => X0.ireturnOut hx hret rfl (by simp) (hb hby d_prog_46_method_10_22) hr) fun U eU hF => hΦ _ _ _ ?_ hF
        rw [eU, e0]
        show Q_rm1 Z x h0 n0 _ _ _
        exact ⟨by simp [own_isText, hc1, hc2, hc3], N0, rfl⟩

theorem pn1 : plainName "com/example/bindery/bindery/io/XmlFilesIsTextPinLaw" = true := by first | (simp [plainName, overriddenIn]; done) | decide +kernel
theorem d_method_2_0 : decode method_2_code 0 = .ok (.iload_n 0, 1) := by decide +kernel
theorem d_method_2_1 : decode method_2_code 1 = .ok (.ifCond .lt 23, 3) := by decide +kernel
theorem d_method_2_24 : decode method_2_code 24 = .ok (.iconst 0, 1) := by decide +kernel
theorem d_method_2_25 : decode method_2_code 25 = .ok (.ireturn, 1) := by decide +kernel
theorem d_method_2_4 : decode method_2_code 4 = .ok (.iload_n 0, 1) := by decide +kernel
theorem d_method_2_5 : decode method_2_code 5 = .ok (.bipush 32, 2) := by decide +kernel
theorem d_method_2_7 : decode method_2_code 7 = .ok (.if_icmp .ge 17, 3) := by decide +kernel
theorem d_method_2_10 : decode method_2_code 10 = .ok (.sipush 4176, 3) := by decide +kernel
theorem d_method_2_13 : decode method_2_code 13 = .ok (.iload_n 0, 1) := by decide +kernel
theorem d_method_2_14 : decode method_2_code 14 = .ok (.iushr, 1) := by decide +kernel
theorem d_method_2_15 : decode method_2_code 15 = .ok (.iconst 1, 1) := by decide +kernel
theorem d_method_2_16 : decode method_2_code 16 = .ok (.iand, 1) := by decide +kernel
theorem d_method_2_17 : decode method_2_code 17 = .ok (.ifCond .eq 7, 3) := by decide +kernel
theorem d_method_2_20 : decode method_2_code 20 = .ok (.iconst 1, 1) := by decide +kernel
theorem d_method_2_21 : decode method_2_code 21 = .ok (.goto 4, 3) := by decide +kernel
theorem ef_rm2 (m : MethodId) (x0 : Int32) : entryFrame m #[(.int x0)] 1 = mkF m 0 #[.val (.int x0)] [] := by first | (simp [entryFrame, mkF, argsToLocals, Value.category]; done) | rfl
def Q_rm2 (Z : State) (x : Int32) (h0 : Heap) (n0 : Nat) (v : Option Value) (h : Heap) (L : List Loc) : Prop := v = some (.int (own_textKind x)) ∧ Fr n0 L ∧ h = h0
set_option maxRecDepth 65536 in
set_option maxHeartbeats 40000000 in
theorem rm2 (l : Launch) (Z : State) (a0 : Array Value) (hw : ∀ d ∈ tables_1, d.before a0 Z = true) (ws : List Jvm.Cond) (x : Int32) (h0 : Heap) (n0 : Nat) (Z0 : n0 ≤ h0.size)  :
    OCon l Z (⟨"com/example/bindery/bindery/io/XmlFilesIsTextPinLaw", "textKind", "(I)Z"⟩ : MethodName) method_2_code 1 (some .boolean) ws ({ frames := 0, cells := 0, slots := 0, locals := 0 } : Room) #[(.int x)] h0 (Q_rm2 Z x h0 n0) := by
  refine OCon.of pn1 ?_
  intro p e s m below meth c s₁ Φ X0 hx hby hml hown hnm hret hlk hZ e0 hΦ
  have N0 := Fr.nil n0
  refine OGo.st (fun _ k => castTop (ef_rm2 m x) k) ?_
  show OGo p.tables e below Φ (s₁.setTop (mkF m 0 #[.val (.int x)] []))
  refine OGo.st (fun _ k => XS.iloadN X0.here hx rfl (hb hby d_method_2_0) rfl k) ?_
  show OGo p.tables e below Φ (s₁.setTop (mkF m 1 #[.val (.int x)] [(.int x)]))
  by_cases hc1 : x < 0
  · refine OGo.st (fun _ k => XS.ifYes X0.here hx rfl (pc0 := 1) (pc' := 24) rfl (hb hby d_method_2_1) rfl (XT.i0_lt_t hc1) (by decide) (by decide) k) ?_
    show OGo p.tables e below Φ (s₁.setTop (mkF m 24 #[.val (.int x)] []))
    refine OGo.st (fun _ k => XS.iconst X0.here hx rfl (hb hby d_method_2_24) k) ?_
    show OGo p.tables e below Φ (s₁.setTop (mkF m 25 #[.val (.int x)] [(.int (0 : Int32))]))
    refine OGo.fin X0 hlk (v := (some (.int (0 : Int32)))) (fun h => by rw [hret] at h; cases h) (by decide) (by decide) (fun fs hr => X0.ireturnOut hx hret rfl (by simp) (hb hby d_method_2_25) hr) fun U eU hF => hΦ _ _ _ ?_ hF
    rw [eU, e0]
    show Q_rm2 Z x h0 n0 _ _ _
    exact ⟨by simp [own_textKind, hc1], N0, rfl⟩
  · refine OGo.st (fun _ k => XS.ifNo X0.here hx rfl (hb hby d_method_2_1) rfl (XT.i0_lt_f hc1) k) ?_
    show OGo p.tables e below Φ (s₁.setTop (mkF m 4 #[.val (.int x)] []))
    refine OGo.st (fun _ k => XS.iloadN X0.here hx rfl (hb hby d_method_2_4) rfl k) ?_
    show OGo p.tables e below Φ (s₁.setTop (mkF m 5 #[.val (.int x)] [(.int x)]))
    refine OGo.st (fun _ k => XS.bipush X0.here hx rfl (hb hby d_method_2_5) k) ?_
    show OGo p.tables e below Φ (s₁.setTop (mkF m 7 #[.val (.int x)] [(.int (32 : Int32)), (.int x)]))
    by_cases hc2 : x < (32 : Int32)
    · refine OGo.st (fun _ k => XS.icmpNo X0.here hx rfl (hb hby d_method_2_7) rfl (XT.ii_ge_f hc2) k) ?_
      show OGo p.tables e below Φ (s₁.setTop (mkF m 10 #[.val (.int x)] []))
      refine OGo.st (fun _ k => XS.sipush X0.here hx rfl (hb hby d_method_2_10) k) ?_
      show OGo p.tables e below Φ (s₁.setTop (mkF m 13 #[.val (.int x)] [(.int (4176 : Int32))]))
      refine OGo.st (fun _ k => XS.iloadN X0.here hx rfl (hb hby d_method_2_13) rfl k) ?_
      show OGo p.tables e below Φ (s₁.setTop (mkF m 14 #[.val (.int x)] [(.int x), (.int (4176 : Int32))]))
      refine OGo.st (fun _ k => XT.iushr X0.here hx rfl (hb hby d_method_2_14) rfl k) ?_
      show OGo p.tables e below Φ (s₁.setTop (mkF m 15 #[.val (.int x)] [(.int (XT.ushr (4176 : Int32) x))]))
      refine OGo.st (fun _ k => XS.iconst X0.here hx rfl (hb hby d_method_2_15) k) ?_
      show OGo p.tables e below Φ (s₁.setTop (mkF m 16 #[.val (.int x)] [(.int (1 : Int32)), (.int (XT.ushr (4176 : Int32) x))]))
      refine OGo.st (fun _ k => XS.iand X0.here hx rfl (hb hby d_method_2_16) rfl k) ?_
      show OGo p.tables e below Φ (s₁.setTop (mkF m 17 #[.val (.int x)] [(.int ((XT.ushr (4176 : Int32) x) &&& (1 : Int32)))]))
      by_cases hc3 : ((XT.ushr (4176 : Int32) x) &&& (1 : Int32)) = 0
      · refine OGo.st (fun _ k => XS.ifYes X0.here hx rfl (pc0 := 17) (pc' := 24) rfl (hb hby d_method_2_17) rfl (XT.i0_eq_t hc3) (by decide) (by decide) k) ?_
        show OGo p.tables e below Φ (s₁.setTop (mkF m 24 #[.val (.int x)] []))
        refine OGo.st (fun _ k => XS.iconst X0.here hx rfl (hb hby d_method_2_24) k) ?_
        show OGo p.tables e below Φ (s₁.setTop (mkF m 25 #[.val (.int x)] [(.int (0 : Int32))]))
        refine OGo.fin X0 hlk (v := (some (.int (0 : Int32)))) (fun h => by rw [hret] at h; cases h) (by decide) (by decide) (fun fs hr => X0.ireturnOut hx hret rfl (by simp) (hb hby d_method_2_25) hr) fun U eU hF => hΦ _ _ _ ?_ hF
        rw [eU, e0]
        show Q_rm2 Z x h0 n0 _ _ _
        exact ⟨by simp [own_textKind, hc1, hc2, hc3], N0, rfl⟩
      · refine OGo.st (fun _ k => XS.ifNo X0.here hx rfl (hb hby d_method_2_17) rfl (XT.i0_eq_f hc3) k) ?_
        show OGo p.tables e below Φ (s₁.setTop (mkF m 20 #[.val (.int x)] []))
        refine OGo.st (fun _ k => XS.iconst X0.here hx rfl (hb hby d_method_2_20) k) ?_
        show OGo p.tables e below Φ (s₁.setTop (mkF m 21 #[.val (.int x)] [(.int (1 : Int32))]))
        refine OGo.st (fun _ k => XS.goto X0.here hx rfl (pc0 := 21) (pc' := 25) rfl (hb hby d_method_2_21) (by decide) (by decide) k) ?_
        show OGo p.tables e below Φ (s₁.setTop (mkF m 25 #[.val (.int x)] [(.int (1 : Int32))]))
        refine OGo.fin X0 hlk (v := (some (.int (1 : Int32)))) (fun h => by rw [hret] at h; cases h) (by decide) (by decide) (fun fs hr => X0.ireturnOut hx hret rfl (by simp) (hb hby d_method_2_25) hr) fun U eU hF => hΦ _ _ _ ?_ hF
        rw [eU, e0]
        show Q_rm2 Z x h0 n0 _ _ _
        exact ⟨by simp [own_textKind, hc1, hc2, hc3], N0, rfl⟩
    · refine OGo.st (fun _ k => XS.icmpYes X0.here hx rfl (pc0 := 7) (pc' := 24) rfl (hb hby d_method_2_7) rfl (XT.ii_ge_t hc2) (by decide) (by decide) k) ?_
      show OGo p.tables e below Φ (s₁.setTop (mkF m 24 #[.val (.int x)] []))
      refine OGo.st (fun _ k => XS.iconst X0.here hx rfl (hb hby d_method_2_24) k) ?_
      show OGo p.tables e below Φ (s₁.setTop (mkF m 25 #[.val (.int x)] [(.int (0 : Int32))]))
      refine OGo.fin X0 hlk (v := (some (.int (0 : Int32)))) (fun h => by rw [hret] at h; cases h) (by decide) (by decide) (fun fs hr => X0.ireturnOut hx hret rfl (by simp) (hb hby d_method_2_25) hr) fun U eU hF => hΦ _ _ _ ?_ hF
      rw [eU, e0]
      show Q_rm2 Z x h0 n0 _ _ _
      exact ⟨by simp [own_textKind, hc1, hc2], N0, rfl⟩

theorem pd0 : parseMethodDescriptor "(I)Z" = some ⟨[.int], some .boolean⟩ := by decide +kernel
theorem ef_rm0 (m : MethodId) (x0 : Int32) (x1 : Int32) : entryFrame m #[(.int x0), (.int x1)] maxLocals = mkF m 0 #[.val (.int x0), .val (.int x1), .unset, .unset, .unset] [] := by first | (simp [entryFrame, mkF, argsToLocals, Value.category, maxLocals]; done) | rfl
def Q_rm0 (Z : State) (a : Int32) (b : Int32) (h0 : Heap) (n0 : Nat) (v : Option Value) (h : Heap) (L : List Loc) : Prop := v = some (.int (1 : Int32)) ∧ Fr n0 L
set_option maxRecDepth 65536 in
set_option maxHeartbeats 40000000 in
theorem rm0 (l : Launch) (Z : State) (a0 : Array Value) (hw : ∀ d ∈ tables_1, d.before a0 Z = true) (ws : List Jvm.Cond) (a : Int32) (b : Int32) (h0 : Heap) (n0 : Nat) (Z0 : n0 ≤ h0.size)  :
    OCon l Z x code maxLocals ret ws room_1 #[(.int a), (.int b)] h0 (Q_rm0 Z a b h0 n0) := by
  refine OCon.of pn1 ?_
  intro p e s m below meth c s₁ Φ X0 hx hby hml hown hnm hret hlk hZ e0 hΦ
  have N0 := Fr.nil n0
  refine OGo.st (fun _ k => castTop (ef_rm0 m a b) k) ?_
  show OGo p.tables e below Φ (s₁.setTop (mkF m 0 #[.val (.int a), .val (.int b), .unset, .unset, .unset] []))
  refine OGo.st (fun _ k => XS.iloadN X0.here hx rfl (hb hby at_0) rfl k) ?_
  show OGo p.tables e below Φ (s₁.setTop (mkF m 1 #[.val (.int a), .val (.int b), .unset, .unset, .unset] [(.int b)]))
  refine OGo.st (fun _ k => XS.bipush X0.here hx rfl (hb hby at_1) k) ?_
  show OGo p.tables e below Φ (s₁.setTop (mkF m 3 #[.val (.int a), .val (.int b), .unset, .unset, .unset] [(.int (15 : Int32)), (.int b)]))
  refine OGo.st (fun _ k => XS.iand X0.here hx rfl (hb hby at_3) rfl k) ?_
  show OGo p.tables e below Φ (s₁.setTop (mkF m 4 #[.val (.int a), .val (.int b), .unset, .unset, .unset] [(.int (b &&& (15 : Int32)))]))
  refine OGo.st (fun _ k => XS.istoreN X0.here hx rfl (hb hby at_4) rfl (l' := #[.val (.int a), .val (.int b), .val (.int (b &&& (15 : Int32))), .unset, .unset]) rfl k) ?_
  show OGo p.tables e below Φ (s₁.setTop (mkF m 5 #[.val (.int a), .val (.int b), .val (.int (b &&& (15 : Int32))), .unset, .unset] []))
  refine OGo.st (fun _ k => XS.iloadN X0.here hx rfl (hb hby at_5) rfl k) ?_
  show OGo p.tables e below Φ (s₁.setTop (mkF m 6 #[.val (.int a), .val (.int b), .val (.int (b &&& (15 : Int32))), .unset, .unset] [(.int (b &&& (15 : Int32)))]))
  obtain ⟨_, T1, L1, X1, hQ1, st1⟩ := own_callSt X0 hx hZ hown (ow0 hw) (ow1 hw) (ow2 hw) (ow3 hw) (by decide) (rm1 l Z a0 hw [] (b &&& (15 : Int32)) h0 n0 Z0 ) e0 (W := 0) (by decide) (by decide) (by decide) (by decide) (pc := 6) (ls := #[.val (.int a), .val (.int b), .val (.int (b &&& (15 : Int32))), .unset, .unset]) (stk := [(.int (b &&& (15 : Int32)))]) (by rw [hml]; rfl) (argsL := [(.int (b &&& (15 : Int32)))]) (rest := []) (lenOf pd0 rfl) rfl rfl (Nat.le_of_eq rfl) (hb hby at_6)
  obtain ⟨rfl, Nq1, e1⟩ := hQ1
  have N1 := Fr.app N0 Nq1
  refine OGo.st st1 ?_
  show OGo p.tables e below Φ (T1.setTop (mkF m 9 #[.val (.int a), .val (.int b), .val (.int (b &&& (15 : Int32))), .unset, .unset] [(.int (own_isText (b &&& (15 : Int32))))]))
  refine OGo.st (fun _ k => XS.iloadN X1.here hx rfl (hb hby at_9) rfl k) ?_
  show OGo p.tables e below Φ (T1.setTop (mkF m 10 #[.val (.int a), .val (.int b), .val (.int (b &&& (15 : Int32))), .unset, .unset] [(.int (b &&& (15 : Int32))), (.int (own_isText (b &&& (15 : Int32))))]))
  obtain ⟨_, T2, L2, X2, hQ2, st2⟩ := own_callSt X1 hx hZ hown (ow4 hw) (ow5 hw) (ow6 hw) (ow7 hw) (by decide) (rm2 l Z a0 hw [] (b &&& (15 : Int32)) h0 n0 Z0 ) e1 (W := 1) (by decide) (by decide) (by decide) (by decide) (pc := 10) (ls := #[.val (.int a), .val (.int b), .val (.int (b &&& (15 : Int32))), .unset, .unset]) (stk := [(.int (b &&& (15 : Int32))), (.int (own_isText (b &&& (15 : Int32))))]) (by rw [hml]; rfl) (argsL := [(.int (b &&& (15 : Int32)))]) (rest := [(.int (own_isText (b &&& (15 : Int32))))]) (lenOf pd0 rfl) rfl rfl (Nat.le_of_eq rfl) (hb hby at_10)
  obtain ⟨rfl, Nq2, e2⟩ := hQ2
  have N2 := Fr.app N1 Nq2
  refine OGo.st st2 ?_
  show OGo p.tables e below Φ (T2.setTop (mkF m 13 #[.val (.int a), .val (.int b), .val (.int (b &&& (15 : Int32))), .unset, .unset] [(.int (own_textKind (b &&& (15 : Int32)))), (.int (own_isText (b &&& (15 : Int32))))]))
  by_cases hc3 : (own_isText (b &&& (15 : Int32))) = (own_textKind (b &&& (15 : Int32)))
  · refine OGo.st (fun _ k => XS.icmpNo X2.here hx rfl (hb hby at_13) rfl (XT.ii_ne_f hc3) k) ?_
    show OGo p.tables e below Φ (T2.setTop (mkF m 16 #[.val (.int a), .val (.int b), .val (.int (b &&& (15 : Int32))), .unset, .unset] []))
    refine OGo.st (fun _ k => XS.iconst X2.here hx rfl (hb hby at_16) k) ?_
    show OGo p.tables e below Φ (T2.setTop (mkF m 17 #[.val (.int a), .val (.int b), .val (.int (b &&& (15 : Int32))), .unset, .unset] [(.int (1 : Int32))]))
    refine OGo.st (fun _ k => XS.goto X2.here hx rfl (pc0 := 17) (pc' := 21) rfl (hb hby at_17) (by decide) (by decide) k) ?_
    show OGo p.tables e below Φ (T2.setTop (mkF m 21 #[.val (.int a), .val (.int b), .val (.int (b &&& (15 : Int32))), .unset, .unset] [(.int (1 : Int32))]))
    refine OGo.st (fun _ k => XS.istoreN X2.here hx rfl (hb hby at_21) rfl (l' := #[.val (.int a), .val (.int b), .val (.int (b &&& (15 : Int32))), .val (.int (1 : Int32)), .unset]) rfl k) ?_
    show OGo p.tables e below Φ (T2.setTop (mkF m 22 #[.val (.int a), .val (.int b), .val (.int (b &&& (15 : Int32))), .val (.int (1 : Int32)), .unset] []))
    refine OGo.st (fun _ k => XS.iloadN X2.here hx rfl (hb hby at_22) rfl k) ?_
    show OGo p.tables e below Φ (T2.setTop (mkF m 23 #[.val (.int a), .val (.int b), .val (.int (b &&& (15 : Int32))), .val (.int (1 : Int32)), .unset] [(.int a)]))
    obtain ⟨_, T4, L4, X4, hQ4, st4⟩ := own_callSt X2 hx hZ hown (ow0 hw) (ow1 hw) (ow2 hw) (ow3 hw) (by decide) (rm1 l Z a0 hw [] a h0 n0 Z0 ) e2 (W := 0) (by decide) (by decide) (by decide) (by decide) (pc := 23) (ls := #[.val (.int a), .val (.int b), .val (.int (b &&& (15 : Int32))), .val (.int (1 : Int32)), .unset]) (stk := [(.int a)]) (by rw [hml]; rfl) (argsL := [(.int a)]) (rest := []) (lenOf pd0 rfl) rfl rfl (Nat.le_of_eq rfl) (hb hby at_23)
    obtain ⟨rfl, Nq4, e4⟩ := hQ4
    have N4 := Fr.app N2 Nq4
    refine OGo.st st4 ?_
    show OGo p.tables e below Φ (T4.setTop (mkF m 26 #[.val (.int a), .val (.int b), .val (.int (b &&& (15 : Int32))), .val (.int (1 : Int32)), .unset] [(.int (own_isText a))]))
    refine OGo.st (fun _ k => XS.iloadN X4.here hx rfl (hb hby at_26) rfl k) ?_
    show OGo p.tables e below Φ (T4.setTop (mkF m 27 #[.val (.int a), .val (.int b), .val (.int (b &&& (15 : Int32))), .val (.int (1 : Int32)), .unset] [(.int a), (.int (own_isText a))]))
    obtain ⟨_, T5, L5, X5, hQ5, st5⟩ := own_callSt X4 hx hZ hown (ow4 hw) (ow5 hw) (ow6 hw) (ow7 hw) (by decide) (rm2 l Z a0 hw [] a h0 n0 Z0 ) e4 (W := 1) (by decide) (by decide) (by decide) (by decide) (pc := 27) (ls := #[.val (.int a), .val (.int b), .val (.int (b &&& (15 : Int32))), .val (.int (1 : Int32)), .unset]) (stk := [(.int a), (.int (own_isText a))]) (by rw [hml]; rfl) (argsL := [(.int a)]) (rest := [(.int (own_isText a))]) (lenOf pd0 rfl) rfl rfl (Nat.le_of_eq rfl) (hb hby at_27)
    obtain ⟨rfl, Nq5, e5⟩ := hQ5
    have N5 := Fr.app N4 Nq5
    refine OGo.st st5 ?_
    show OGo p.tables e below Φ (T5.setTop (mkF m 30 #[.val (.int a), .val (.int b), .val (.int (b &&& (15 : Int32))), .val (.int (1 : Int32)), .unset] [(.int (own_textKind a)), (.int (own_isText a))]))
    by_cases hc6 : (own_isText a) = (own_textKind a)
    · refine OGo.st (fun _ k => XS.icmpNo X5.here hx rfl (hb hby at_30) rfl (XT.ii_ne_f hc6) k) ?_
      show OGo p.tables e below Φ (T5.setTop (mkF m 33 #[.val (.int a), .val (.int b), .val (.int (b &&& (15 : Int32))), .val (.int (1 : Int32)), .unset] []))
      refine OGo.st (fun _ k => XS.iconst X5.here hx rfl (hb hby at_33) k) ?_
      show OGo p.tables e below Φ (T5.setTop (mkF m 34 #[.val (.int a), .val (.int b), .val (.int (b &&& (15 : Int32))), .val (.int (1 : Int32)), .unset] [(.int (1 : Int32))]))
      refine OGo.st (fun _ k => XS.goto X5.here hx rfl (pc0 := 34) (pc' := 38) rfl (hb hby at_34) (by decide) (by decide) k) ?_
      show OGo p.tables e below Φ (T5.setTop (mkF m 38 #[.val (.int a), .val (.int b), .val (.int (b &&& (15 : Int32))), .val (.int (1 : Int32)), .unset] [(.int (1 : Int32))]))
      refine OGo.st (fun _ k => XS.istore X5.here hx rfl (hb hby at_38) rfl (l' := #[.val (.int a), .val (.int b), .val (.int (b &&& (15 : Int32))), .val (.int (1 : Int32)), .val (.int (1 : Int32))]) rfl k) ?_
      show OGo p.tables e below Φ (T5.setTop (mkF m 40 #[.val (.int a), .val (.int b), .val (.int (b &&& (15 : Int32))), .val (.int (1 : Int32)), .val (.int (1 : Int32))] []))
      refine OGo.st (fun _ k => XS.iloadN X5.here hx rfl (hb hby at_40) rfl k) ?_
      show OGo p.tables e below Φ (T5.setTop (mkF m 41 #[.val (.int a), .val (.int b), .val (.int (b &&& (15 : Int32))), .val (.int (1 : Int32)), .val (.int (1 : Int32))] [(.int (1 : Int32))]))
      refine OGo.st (fun _ k => XS.ifNo X5.here hx rfl (hb hby at_41) rfl (XT.i0_eq_f (by decide)) k) ?_
      show OGo p.tables e below Φ (T5.setTop (mkF m 44 #[.val (.int a), .val (.int b), .val (.int (b &&& (15 : Int32))), .val (.int (1 : Int32)), .val (.int (1 : Int32))] []))
      refine OGo.st (fun _ k => XS.iload X5.here hx rfl (hb hby at_44) rfl k) ?_
      show OGo p.tables e below Φ (T5.setTop (mkF m 46 #[.val (.int a), .val (.int b), .val (.int (b &&& (15 : Int32))), .val (.int (1 : Int32)), .val (.int (1 : Int32))] [(.int (1 : Int32))]))
      refine OGo.st (fun _ k => XS.ifNo X5.here hx rfl (hb hby at_46) rfl (XT.i0_eq_f (by decide)) k) ?_
      show OGo p.tables e below Φ (T5.setTop (mkF m 49 #[.val (.int a), .val (.int b), .val (.int (b &&& (15 : Int32))), .val (.int (1 : Int32)), .val (.int (1 : Int32))] []))
      refine OGo.st (fun _ k => XS.iconst X5.here hx rfl (hb hby at_49) k) ?_
      show OGo p.tables e below Φ (T5.setTop (mkF m 50 #[.val (.int a), .val (.int b), .val (.int (b &&& (15 : Int32))), .val (.int (1 : Int32)), .val (.int (1 : Int32))] [(.int (1 : Int32))]))
      refine OGo.st (fun _ k => XS.goto X5.here hx rfl (pc0 := 50) (pc' := 54) rfl (hb hby at_50) (by decide) (by decide) k) ?_
      show OGo p.tables e below Φ (T5.setTop (mkF m 54 #[.val (.int a), .val (.int b), .val (.int (b &&& (15 : Int32))), .val (.int (1 : Int32)), .val (.int (1 : Int32))] [(.int (1 : Int32))]))
      refine OGo.fin X5 hlk (v := (some (.int (1 : Int32)))) (fun h => by rw [hret] at h; cases h) (by decide) (by decide) (fun fs hr => X5.ireturnOut hx hret rfl (by simp) (hb hby at_54) hr) fun U eU hF => hΦ _ _ _ ?_ hF
      rw [eU, e5]
      show Q_rm0 Z a b h0 n0 _ _ _
      exact ⟨rfl, N5⟩
    · refine OGo.st (fun _ k => XS.icmpYes X5.here hx rfl (pc0 := 30) (pc' := 37) rfl (hb hby at_30) rfl (XT.ii_ne_t hc6) (by decide) (by decide) k) ?_
      show OGo p.tables e below Φ (T5.setTop (mkF m 37 #[.val (.int a), .val (.int b), .val (.int (b &&& (15 : Int32))), .val (.int (1 : Int32)), .unset] []))
      refine OGo.st (fun _ k => XS.iconst X5.here hx rfl (hb hby at_37) k) ?_
      show OGo p.tables e below Φ (T5.setTop (mkF m 38 #[.val (.int a), .val (.int b), .val (.int (b &&& (15 : Int32))), .val (.int (1 : Int32)), .unset] [(.int (0 : Int32))]))
      refine OGo.st (fun _ k => XS.istore X5.here hx rfl (hb hby at_38) rfl (l' := #[.val (.int a), .val (.int b), .val (.int (b &&& (15 : Int32))), .val (.int (1 : Int32)), .val (.int (0 : Int32))]) rfl k) ?_
      show OGo p.tables e below Φ (T5.setTop (mkF m 40 #[.val (.int a), .val (.int b), .val (.int (b &&& (15 : Int32))), .val (.int (1 : Int32)), .val (.int (0 : Int32))] []))
      refine OGo.st (fun _ k => XS.iloadN X5.here hx rfl (hb hby at_40) rfl k) ?_
      show OGo p.tables e below Φ (T5.setTop (mkF m 41 #[.val (.int a), .val (.int b), .val (.int (b &&& (15 : Int32))), .val (.int (1 : Int32)), .val (.int (0 : Int32))] [(.int (1 : Int32))]))
      refine OGo.st (fun _ k => XS.ifNo X5.here hx rfl (hb hby at_41) rfl (XT.i0_eq_f (by decide)) k) ?_
      show OGo p.tables e below Φ (T5.setTop (mkF m 44 #[.val (.int a), .val (.int b), .val (.int (b &&& (15 : Int32))), .val (.int (1 : Int32)), .val (.int (0 : Int32))] []))
      refine OGo.st (fun _ k => XS.iload X5.here hx rfl (hb hby at_44) rfl k) ?_
      show OGo p.tables e below Φ (T5.setTop (mkF m 46 #[.val (.int a), .val (.int b), .val (.int (b &&& (15 : Int32))), .val (.int (1 : Int32)), .val (.int (0 : Int32))] [(.int (0 : Int32))]))
      refine OGo.st (fun _ k => XS.ifYes X5.here hx rfl (pc0 := 46) (pc' := 53) rfl (hb hby at_46) rfl (XT.i0_eq_t (by decide)) (by decide) (by decide) k) ?_
      show OGo p.tables e below Φ (T5.setTop (mkF m 53 #[.val (.int a), .val (.int b), .val (.int (b &&& (15 : Int32))), .val (.int (1 : Int32)), .val (.int (0 : Int32))] []))
      refine OGo.st (fun _ k => XS.iconst X5.here hx rfl (hb hby at_53) k) ?_
      show OGo p.tables e below Φ (T5.setTop (mkF m 54 #[.val (.int a), .val (.int b), .val (.int (b &&& (15 : Int32))), .val (.int (1 : Int32)), .val (.int (0 : Int32))] [(.int (0 : Int32))]))
      exact absurd (own_same _) hc6
  · refine OGo.st (fun _ k => XS.icmpYes X2.here hx rfl (pc0 := 13) (pc' := 20) rfl (hb hby at_13) rfl (XT.ii_ne_t hc3) (by decide) (by decide) k) ?_
    show OGo p.tables e below Φ (T2.setTop (mkF m 20 #[.val (.int a), .val (.int b), .val (.int (b &&& (15 : Int32))), .unset, .unset] []))
    refine OGo.st (fun _ k => XS.iconst X2.here hx rfl (hb hby at_20) k) ?_
    show OGo p.tables e below Φ (T2.setTop (mkF m 21 #[.val (.int a), .val (.int b), .val (.int (b &&& (15 : Int32))), .unset, .unset] [(.int (0 : Int32))]))
    refine OGo.st (fun _ k => XS.istoreN X2.here hx rfl (hb hby at_21) rfl (l' := #[.val (.int a), .val (.int b), .val (.int (b &&& (15 : Int32))), .val (.int (0 : Int32)), .unset]) rfl k) ?_
    show OGo p.tables e below Φ (T2.setTop (mkF m 22 #[.val (.int a), .val (.int b), .val (.int (b &&& (15 : Int32))), .val (.int (0 : Int32)), .unset] []))
    refine OGo.st (fun _ k => XS.iloadN X2.here hx rfl (hb hby at_22) rfl k) ?_
    show OGo p.tables e below Φ (T2.setTop (mkF m 23 #[.val (.int a), .val (.int b), .val (.int (b &&& (15 : Int32))), .val (.int (0 : Int32)), .unset] [(.int a)]))
    obtain ⟨_, T7, L7, X7, hQ7, st7⟩ := own_callSt X2 hx hZ hown (ow0 hw) (ow1 hw) (ow2 hw) (ow3 hw) (by decide) (rm1 l Z a0 hw [] a h0 n0 Z0 ) e2 (W := 0) (by decide) (by decide) (by decide) (by decide) (pc := 23) (ls := #[.val (.int a), .val (.int b), .val (.int (b &&& (15 : Int32))), .val (.int (0 : Int32)), .unset]) (stk := [(.int a)]) (by rw [hml]; rfl) (argsL := [(.int a)]) (rest := []) (lenOf pd0 rfl) rfl rfl (Nat.le_of_eq rfl) (hb hby at_23)
    obtain ⟨rfl, Nq7, e7⟩ := hQ7
    have N7 := Fr.app N2 Nq7
    refine OGo.st st7 ?_
    show OGo p.tables e below Φ (T7.setTop (mkF m 26 #[.val (.int a), .val (.int b), .val (.int (b &&& (15 : Int32))), .val (.int (0 : Int32)), .unset] [(.int (own_isText a))]))
    refine OGo.st (fun _ k => XS.iloadN X7.here hx rfl (hb hby at_26) rfl k) ?_
    show OGo p.tables e below Φ (T7.setTop (mkF m 27 #[.val (.int a), .val (.int b), .val (.int (b &&& (15 : Int32))), .val (.int (0 : Int32)), .unset] [(.int a), (.int (own_isText a))]))
    obtain ⟨_, T8, L8, X8, hQ8, st8⟩ := own_callSt X7 hx hZ hown (ow4 hw) (ow5 hw) (ow6 hw) (ow7 hw) (by decide) (rm2 l Z a0 hw [] a h0 n0 Z0 ) e7 (W := 1) (by decide) (by decide) (by decide) (by decide) (pc := 27) (ls := #[.val (.int a), .val (.int b), .val (.int (b &&& (15 : Int32))), .val (.int (0 : Int32)), .unset]) (stk := [(.int a), (.int (own_isText a))]) (by rw [hml]; rfl) (argsL := [(.int a)]) (rest := [(.int (own_isText a))]) (lenOf pd0 rfl) rfl rfl (Nat.le_of_eq rfl) (hb hby at_27)
    obtain ⟨rfl, Nq8, e8⟩ := hQ8
    have N8 := Fr.app N7 Nq8
    refine OGo.st st8 ?_
    show OGo p.tables e below Φ (T8.setTop (mkF m 30 #[.val (.int a), .val (.int b), .val (.int (b &&& (15 : Int32))), .val (.int (0 : Int32)), .unset] [(.int (own_textKind a)), (.int (own_isText a))]))
    by_cases hc9 : (own_isText a) = (own_textKind a)
    · refine OGo.st (fun _ k => XS.icmpNo X8.here hx rfl (hb hby at_30) rfl (XT.ii_ne_f hc9) k) ?_
      show OGo p.tables e below Φ (T8.setTop (mkF m 33 #[.val (.int a), .val (.int b), .val (.int (b &&& (15 : Int32))), .val (.int (0 : Int32)), .unset] []))
      refine OGo.st (fun _ k => XS.iconst X8.here hx rfl (hb hby at_33) k) ?_
      show OGo p.tables e below Φ (T8.setTop (mkF m 34 #[.val (.int a), .val (.int b), .val (.int (b &&& (15 : Int32))), .val (.int (0 : Int32)), .unset] [(.int (1 : Int32))]))
      refine OGo.st (fun _ k => XS.goto X8.here hx rfl (pc0 := 34) (pc' := 38) rfl (hb hby at_34) (by decide) (by decide) k) ?_
      show OGo p.tables e below Φ (T8.setTop (mkF m 38 #[.val (.int a), .val (.int b), .val (.int (b &&& (15 : Int32))), .val (.int (0 : Int32)), .unset] [(.int (1 : Int32))]))
      refine OGo.st (fun _ k => XS.istore X8.here hx rfl (hb hby at_38) rfl (l' := #[.val (.int a), .val (.int b), .val (.int (b &&& (15 : Int32))), .val (.int (0 : Int32)), .val (.int (1 : Int32))]) rfl k) ?_
      show OGo p.tables e below Φ (T8.setTop (mkF m 40 #[.val (.int a), .val (.int b), .val (.int (b &&& (15 : Int32))), .val (.int (0 : Int32)), .val (.int (1 : Int32))] []))
      refine OGo.st (fun _ k => XS.iloadN X8.here hx rfl (hb hby at_40) rfl k) ?_
      show OGo p.tables e below Φ (T8.setTop (mkF m 41 #[.val (.int a), .val (.int b), .val (.int (b &&& (15 : Int32))), .val (.int (0 : Int32)), .val (.int (1 : Int32))] [(.int (0 : Int32))]))
      refine OGo.st (fun _ k => XS.ifYes X8.here hx rfl (pc0 := 41) (pc' := 53) rfl (hb hby at_41) rfl (XT.i0_eq_t (by decide)) (by decide) (by decide) k) ?_
      show OGo p.tables e below Φ (T8.setTop (mkF m 53 #[.val (.int a), .val (.int b), .val (.int (b &&& (15 : Int32))), .val (.int (0 : Int32)), .val (.int (1 : Int32))] []))
      refine OGo.st (fun _ k => XS.iconst X8.here hx rfl (hb hby at_53) k) ?_
      show OGo p.tables e below Φ (T8.setTop (mkF m 54 #[.val (.int a), .val (.int b), .val (.int (b &&& (15 : Int32))), .val (.int (0 : Int32)), .val (.int (1 : Int32))] [(.int (0 : Int32))]))
      exact absurd (own_same _) hc3
    · refine OGo.st (fun _ k => XS.icmpYes X8.here hx rfl (pc0 := 30) (pc' := 37) rfl (hb hby at_30) rfl (XT.ii_ne_t hc9) (by decide) (by decide) k) ?_
      show OGo p.tables e below Φ (T8.setTop (mkF m 37 #[.val (.int a), .val (.int b), .val (.int (b &&& (15 : Int32))), .val (.int (0 : Int32)), .unset] []))
      refine OGo.st (fun _ k => XS.iconst X8.here hx rfl (hb hby at_37) k) ?_
      show OGo p.tables e below Φ (T8.setTop (mkF m 38 #[.val (.int a), .val (.int b), .val (.int (b &&& (15 : Int32))), .val (.int (0 : Int32)), .unset] [(.int (0 : Int32))]))
      refine OGo.st (fun _ k => XS.istore X8.here hx rfl (hb hby at_38) rfl (l' := #[.val (.int a), .val (.int b), .val (.int (b &&& (15 : Int32))), .val (.int (0 : Int32)), .val (.int (0 : Int32))]) rfl k) ?_
      show OGo p.tables e below Φ (T8.setTop (mkF m 40 #[.val (.int a), .val (.int b), .val (.int (b &&& (15 : Int32))), .val (.int (0 : Int32)), .val (.int (0 : Int32))] []))
      refine OGo.st (fun _ k => XS.iloadN X8.here hx rfl (hb hby at_40) rfl k) ?_
      show OGo p.tables e below Φ (T8.setTop (mkF m 41 #[.val (.int a), .val (.int b), .val (.int (b &&& (15 : Int32))), .val (.int (0 : Int32)), .val (.int (0 : Int32))] [(.int (0 : Int32))]))
      refine OGo.st (fun _ k => XS.ifYes X8.here hx rfl (pc0 := 41) (pc' := 53) rfl (hb hby at_41) rfl (XT.i0_eq_t (by decide)) (by decide) (by decide) k) ?_
      show OGo p.tables e below Φ (T8.setTop (mkF m 53 #[.val (.int a), .val (.int b), .val (.int (b &&& (15 : Int32))), .val (.int (0 : Int32)), .val (.int (0 : Int32))] []))
      refine OGo.st (fun _ k => XS.iconst X8.here hx rfl (hb hby at_53) k) ?_
      show OGo p.tables e below Φ (T8.setTop (mkF m 54 #[.val (.int a), .val (.int b), .val (.int (b &&& (15 : Int32))), .val (.int (0 : Int32)), .val (.int (0 : Int32))] [(.int (0 : Int32))]))
      exact absurd (own_same _) hc9

set_option maxRecDepth 65536 in
set_option maxHeartbeats 40000000 in
theorem comes_1 {Post : Tables → Env → Array Value → State → Outcome → State → Prop} (hpost : ∀ tb e args s v u, (limb_1_1.after args s (.returned v) u = true ∧ limb_1_2.after args s (.returned v) u = true ∧ True) → FrameEnd s (.returned v) u (Jvm.fieldLocs frame_1_writes args s ++ Jvm.arrayLocs frame_1_arrays args s ++ Jvm.staticLocs frame_1_statics s) 0 0 → Post tb e args s (.returned v) u) :
    ArmFor flags0 classFile x code maxLocals ret World_1 tables_1 room_1 Calls_1 rest_1 Pre_1 Post := by
  intro l hfl _ _ p e ha hc hk s m args below hf hA hF happ hP
  obtain ⟨hcalls, hrest, hpre⟩ := hP
  obtain ⟨-, -, -, hnamed, -, -, -, hat⟩ := (Spec.applies_iff hf).mp happ
  obtain ⟨hg, hn⟩ := and_e (Cond.before_iff.mp (show (Jvm.Cond.and given_1 narrow_1).before args s = true from hpre))
  obtain ⟨g0, r0⟩ := and_e hg
  obtain ⟨k0, r1⟩ := and_e r0
  have k1 := r1
  obtain ⟨w0, w1, rfl⟩ : ∃ w0 w1 : Value, args = #[w0, w1] := by
    have hs : args.size = 2 := by simpa [Cond.value, given_1] using g0
    obtain ⟨L⟩ := args
    match L, hs with
    | [w0, w1], _ => exact ⟨w0, w1, rfl⟩
  have hw := fun d (hd : d ∈ tables_1) => atoms_spec (ws := Jvm.Cond.code x code maxLocals ret :: tables_1) hat d (List.mem_cons_of_mem _ hd)
  have hfit : Fit s := fun {y c} hc i hi => by
    obtain ⟨ha, rfl⟩ := Array.getElem?_eq_some_iff.mp hc
    have q := List.all_eq_true.mp ((Array.all_eq_true_iff_forall_mem.mp hF) _ (Array.getElem_mem ha)) i (List.mem_range.mpr hi)
    simpa [Array.getElem?_eq_getElem hi] using q
  obtain ⟨i0, ei0⟩ := is_v k0
  obtain rfl : w0 = (.int i0) := Option.some.inj ei0
  obtain ⟨i1, ei1⟩ := is_v k1
  obtain rfl : w1 = (.int i1) := Option.some.inj ei1
  obtain ⟨n, o, h1, h2, h3, _, L, rfl, ⟨rfl, N⟩, hq⟩ := rm0 l s _ hw tables_1 i0 i1  s.heap s.heap.size (Nat.le_refl _)  p e ha hc hk s m _ below hf ((Spec.applies_iff_loose hf).mp happ).1 ⟨rfl, State.Warmed39.refl s, rfl⟩ trivial
  refine ⟨n, _, h1, h2, h3, hpost _ _ _ _ _ _ ⟨Cond.after_iff.mpr rfl, Cond.after_iff.mpr (eq_i res_at (Term.int_eval (1)) rfl), trivial⟩ ⟨hq.1, hq.2.1, (hq.2.2.sift fun y hy => Or.inr (N y hy)).mono (by decide) (by decide)⟩⟩
theorem main_1_1 : Claimed_1_1 := comes_1 fun _ _ _ _ _ _ h hF => ⟨h.1, hF⟩
theorem main_1_2 : Claimed_1_2 := comes_1 fun _ _ _ _ _ _ h hF => ⟨h.2.1, hF⟩
end Jvm.Pilot.@@N@@
namespace Jvm.Pilot.@@N@@
open Jvm Jvm.ClassFile Sem Op Lib Jvm.Free Jvm.Stand Jvm.Pilot.@@N@@.Jvm.D
/-! MADE BY PROGRAM (witnessworld.py) out of the Statement's table words and the real class files: 9 classes; the members and pool entries that the words name. The judged class is class 1, her method 2. -/
namespace start1
open Jvm.ClassFile
def u (s : String) : CpInfo := .utf8 (stringToUtf16 s)
/-- a pool by its gaps: so many unusable entries, then the entry; so many at the end -/
def gap : Nat → List CpInfo → List CpInfo
  | 0, r => r
  | n + 1, r => .unusable :: gap n r
def poolList (es : List (Nat × CpInfo)) (last : Nat) : List CpInfo := es.foldr (fun e r => gap e.1 (e.2 :: r)) (gap last [])
def pool (es : List (Nat × CpInfo)) (last : Nat) : Array CpInfo := ⟨poolList es last⟩
def fileOf (pool : Array CpInfo) (this : Nat) (attrs : Array Attribute := #[]) (ms : Array MethodInfo := #[]) (fl : Nat := 33) (sup : Nat := 0) (ifs : Array Nat := #[]) (fds : Array FieldInfo := #[]) : ClassFile where
  minorVersion := 0
  majorVersion := 65
  constantPool := pool
  accessFlags := fl
  thisClass := this
  superClass := sup
  interfaces := ifs
  fields := fds
  methods := ms
  attributes := attrs
def plain (name : String) (sup : Option ClassId) : Class where
  name := name
  kind := .ordinary
  loader := none
  accessFlags := 33
  super := sup
  interfaces := #[]
  cf := none
  fields := #[]
  methods := #[]
  instanceTypes := #[]
  staticTypes := #[]
  resolved := #[]
  callSites := []
  init := .initialized
  statics := none
  mirror := none

def pool0 : Array CpInfo := pool [(5, u "<init>"), (0, u "()V"), (1, .class_ 10), (1, u "java/lang/Object")] 113

def k0m0 : Method := { name := "<init>", desc := "()V", sig := { parameters := [], returnType := none }, accessFlags := 1, code := none }
/-- java/lang/Object -/
def k0 : Class := { plain "java/lang/Object" none with
  accessFlags := 33
  interfaces := #[]
  cf := some (fileOf pool0 8 #[] #[{ accessFlags := 1, nameIndex := 5, descriptorIndex := 6, attributes := #[] }] 33 0 #[] #[])
  fields := #[]
  methods := #[k0m0]
  instanceTypes := #[]
  staticTypes := #[]
  resolved := Array.replicate 124 none
  statics := none }

def pool1 : Array CpInfo := pool [(2, .class_ 4), (1, u "java/lang/Object"), (0, u "<init>"), (0, u "()V"), (0, .methodref 8 9), (0, .class_ 10), (0, .nameAndType 11 12), (0, u "com/example/bindery/bindery/io/XmlFiles"), (0, u "isText"), (0, u "(I)Z"), (0, .methodref 14 15), (0, .class_ 16), (0, .nameAndType 17 12), (0, u "com/example/bindery/bindery/io/XmlFilesIsTextPinLaw"), (0, u "textKind"), (3, u "law"), (0, u "(II)Z")] 2

def k1m0 : Method := { name := "<init>", desc := "()V", sig := { parameters := [], returnType := none }, accessFlags := 2, code := none }
def k1c1 : Code := { maxStack := 2, maxLocals := 1, code := method_2_code, exceptionTable := #[], attributes := #[] }
def k1m1 : Method := { name := "textKind", desc := "(I)Z", sig := { parameters := [.int], returnType := some .boolean }, accessFlags := 10, code := some k1c1 }
def k1c2 : Code := { maxStack := 2, maxLocals := 5, code := code, exceptionTable := #[], attributes := #[] }
def k1m2 : Method := { name := "law", desc := "(II)Z", sig := { parameters := [.int, .int], returnType := some .boolean }, accessFlags := 9, code := some k1c2 }
/-- com/example/bindery/bindery/io/XmlFilesIsTextPinLaw -/
def k1 : Class := { plain "com/example/bindery/bindery/io/XmlFilesIsTextPinLaw" (some 0) with
  accessFlags := 49
  interfaces := #[]
  cf := some (fileOf pool1 14 #[] #[{ accessFlags := 2, nameIndex := 5, descriptorIndex := 6, attributes := #[] }, { accessFlags := 10, nameIndex := 17, descriptorIndex := 12, attributes := #[] }, { accessFlags := 9, nameIndex := 21, descriptorIndex := 22, attributes := #[] }] 49 2 #[] #[])
  fields := #[]
  methods := #[k1m0, k1m1, k1m2]
  instanceTypes := #[]
  staticTypes := #[]
  resolved := Array.replicate 25 none
  statics := none }

def pool2 : Array CpInfo := pool [(1, .class_ 2), (0, u "com/example/bindery/bindery/io/XmlFiles"), (1, .class_ 6), (1, u "java/lang/Object"), (0, u "<init>"), (0, u "()V"), (27, .class_ 37), (0, u "com/example/bindery/bindery/io/XmlFiles$MarkupBudget"), (17, .class_ 56), (0, u "com/example/bindery/bindery/io/XmlFiles$BudgetedReader"), (45, .class_ 104), (1, u "com/example/bindery/bindery/io/XmlFiles$ElementVisitor"), (87, u "isText"), (0, u "(I)Z"), (52, u "MAX_ELEMENT_DEPTH"), (0, u "I"), (2, u "MAX_MARKUP_BYTES"), (0, u "MAX_TEXT_LENGTH"), (0, u "MARKUP_TOO_LONG"), (0, u "Ljava/lang/String;")] 50

def k2m0 : Method := { name := "<init>", desc := "()V", sig := { parameters := [], returnType := none }, accessFlags := 2, code := none }
def k2c1 : Code := { maxStack := 2, maxLocals := 1, code := prog_46_method_10_code, exceptionTable := #[], attributes := #[] }
def k2m1 : Method := { name := "isText", desc := "(I)Z", sig := { parameters := [.int], returnType := some .boolean }, accessFlags := 8, code := some k2c1 }
/-- com/example/bindery/bindery/io/XmlFiles -/
def k2 : Class := { plain "com/example/bindery/bindery/io/XmlFiles" (some 0) with
  accessFlags := 48
  interfaces := #[]
  cf := some (fileOf pool2 1 #[.nestMembers #[55, 36, 102]] #[{ accessFlags := 2, nameIndex := 7, descriptorIndex := 8, attributes := #[] }, { accessFlags := 8, nameIndex := 192, descriptorIndex := 193, attributes := #[] }] 48 4 #[] #[{ accessFlags := 26, nameIndex := 246, descriptorIndex := 247, attributes := #[] }, { accessFlags := 24, nameIndex := 250, descriptorIndex := 247, attributes := #[] }, { accessFlags := 24, nameIndex := 251, descriptorIndex := 247, attributes := #[] }, { accessFlags := 26, nameIndex := 252, descriptorIndex := 253, attributes := #[] }])
  fields := #[{ name := "MAX_ELEMENT_DEPTH", type := .int, accessFlags := 26, slot := 0, constantValue := 0 }, { name := "MAX_MARKUP_BYTES", type := .int, accessFlags := 24, slot := 1, constantValue := 0 }, { name := "MAX_TEXT_LENGTH", type := .int, accessFlags := 24, slot := 2, constantValue := 0 }, { name := "MARKUP_TOO_LONG", type := (.object "java/lang/String"), accessFlags := 26, slot := 3, constantValue := 0 }]
  methods := #[k2m0, k2m1]
  instanceTypes := #[]
  staticTypes := #[.int, .int, .int, (.object "java/lang/String")]
  resolved := Array.replicate 304 none
  statics := none }

def pool3 : Array CpInfo := pool [(1, u "java/lang/Cloneable"), (0, .class_ 1), (0, u "java/lang/Object"), (0, .class_ 3)] 3

/-- java/lang/Cloneable -/
def k3 : Class := { plain "java/lang/Cloneable" (some 0) with
  accessFlags := 1537
  interfaces := #[]
  cf := some (fileOf pool3 2 #[] #[] 1537 4 #[] #[])
  fields := #[]
  methods := #[]
  instanceTypes := #[]
  staticTypes := #[]
  resolved := Array.replicate 8 none
  statics := none }

def pool4 : Array CpInfo := pool [(1, u "java/io/Serializable"), (0, .class_ 1), (0, u "java/lang/Object"), (0, .class_ 3)] 3

/-- java/io/Serializable -/
def k4 : Class := { plain "java/io/Serializable" (some 0) with
  accessFlags := 1537
  interfaces := #[]
  cf := some (fileOf pool4 2 #[] #[] 1537 4 #[] #[])
  fields := #[]
  methods := #[]
  instanceTypes := #[]
  staticTypes := #[]
  resolved := Array.replicate 8 none
  statics := none }

/-- the primitive byte -/
def k5 : Class := { plain "byte" none with kind := .primitive 'B', accessFlags := 0x411 }
/-- [B -/
def k6 : Class := { plain "[B" (some 0) with kind := .array 5 .byte, interfaces := #[3, 4], accessFlags := 1041 }

/-- the primitive int -/
def k7 : Class := { plain "int" none with kind := .primitive 'I', accessFlags := 0x411 }
/-- [I -/
def k8 : Class := { plain "[I" (some 0) with kind := .array 7 .int, interfaces := #[3, 4], accessFlags := 1041 }

def heap : Heap := #[]
def classes : Array Class := #[k0, k1, k2, k3, k4, k5, k6, k7, k8]
def interned : List (Array UInt16 × Addr) := []
def slotsUsed : Nat := 0
def theMethod : MethodId := ⟨1, 2⟩
def args0 : Array Value := #[.int 5, .int 5]
def aboutOver (below : List Frame) : State where
  vm := { classes := classes, interned := interned.toArray }
  heap := heap
  slotsUsed := slotsUsed
  threads := #[{ frames := .invoking theMethod args0 :: below }]
def below0 : List Frame := [.native { method := ⟨0, 0⟩, args := #[] }]
def about1 : State := aboutOver below0
def p0 : Program := .bare "" "" ""
def e0 : Env := launch0.env 0 0 0
theorem w_frames : about1.frames = Frame.invoking theMethod args0 :: below0 := rfl
set_option maxRecDepth 65536 in
theorem w_args : argsFit about1.vm theMethod args0 = true := by decide +kernel
set_option maxRecDepth 65536 in
theorem w_heap : heapFits about1 = true := by decide +kernel
set_option maxRecDepth 65536 in
theorem w_runnable : about1.curStatus? = some .runnable := by decide +kernel
set_option maxRecDepth 65536 in
theorem w_alone : about1.alone = true := by decide +kernel
set_option maxRecDepth 65536 in
theorem w_named : about1.methodNamed? x = some theMethod := by decide +kernel
set_option maxRecDepth 65536 in
theorem w_hears : about1.hears theMethod below0 = true := by decide +kernel
set_option maxRecDepth 65536 in
theorem w_ripe : about1.ripe theMethod args0 below0 = true := by decide +kernel
theorem w_running : about1.status = .running := rfl
set_option maxRecDepth 65536 in
theorem w_room : about1.hasRoom e0.platform room_1 = true :=
  launch0.hasRoom_least _ room_1 (by decide +kernel) (by decide +kernel) (by decide +kernel) (by decide +kernel) (by decide +kernel) (by decide +kernel)
theorem allAtoms_all (ts : List Jvm.Cond) (a : Array Jvm.Value) (st : Jvm.State) : (allAtoms ts).before a st = ts.all (fun c => c.before a st) := by
  induction ts with
  | nil => rfl
  | cons c t ih =>
    show (Jvm.Cond.and c (allAtoms t)).before a st = _
    rw [Jvm.Cond.before_and, ih, List.all_cons]
def words1 : List Jvm.Cond := Jvm.Cond.code x code maxLocals ret :: tables_1
/-- a 'code' word, met by the world's own term for the bytes: nothing is compared byte by byte -/
theorem code_word {y : MethodName} {bytes : ByteArray} {mx : Nat} {rt : Option FieldType} {a : Array Value} {s : State} {m : MethodId} {meth : Method} {c : Code} (h1 : s.methodNamed? y = some m) (h2 : s.vm.method? m = some meth) (h3 : meth.code = some c) (h4 : c.code = bytes)
    (h5 : (c.maxLocals == mx && c.exceptionTable.isEmpty && decide (c.maxStack ≤ mostOperands) && decide (meth.sig.returnType = rt) && !meth.locks && decide (parseMethodDescriptor y.desc = some meth.sig)) = true) : (Jvm.Cond.code y bytes mx rt).before a s = true := by
  simp only [Bool.and_eq_true, beq_iff_eq, Bool.not_eq_true', decide_eq_true_eq] at h5
  obtain ⟨⟨⟨⟨⟨g1, g2⟩, g3⟩, g4⟩, g5⟩, g6⟩ := h5
  simp [Cond.before, Cond.holds, Cond.value, h1, h2, h3, h4, g1, g2, g3, g4, g5, g6]
def isCode : Jvm.Cond → Bool
  | .code _ _ _ _ => true
  | _ => false
theorem all_split {L : List Jvm.Cond} {P : Jvm.Cond → Bool} (h1 : L.all (fun c => isCode c || P c) = true) (h2 : ∀ c ∈ L.filter isCode, P c = true) : L.all P = true := by
  refine List.all_eq_true.mpr fun c hc => ?_
  have h := List.all_eq_true.mp h1 c hc
  rcases Bool.eq_false_or_eq_true (isCode c) with hi | hi
  · exact h2 c (List.mem_filter.mpr ⟨hc, hi⟩)
  · simpa [hi] using h
set_option maxRecDepth 65536 in
theorem w_c0 : (Jvm.Cond.code x code maxLocals ret).before args0 about1 = true := code_word (m := ⟨1, 2⟩) (meth := k1m2) (c := k1c2) (by decide +kernel) rfl rfl rfl (by decide +kernel)
set_option maxRecDepth 65536 in
theorem w_c1 : (Jvm.Cond.code ({ cls := "com/example/bindery/bindery/io/XmlFiles", name := "isText", desc := "(I)Z" } : Jvm.MethodName) prog_46_method_10_code (1 : Nat) (Option.some Jvm.ClassFile.FieldType.boolean)).before args0 about1 = true := code_word (m := ⟨2, 1⟩) (meth := k2m1) (c := k2c1) (by decide +kernel) rfl rfl rfl (by decide +kernel)
set_option maxRecDepth 65536 in
theorem w_c2 : (Jvm.Cond.code ({ cls := "com/example/bindery/bindery/io/XmlFilesIsTextPinLaw", name := "textKind", desc := "(I)Z" } : Jvm.MethodName) method_2_code (1 : Nat) (Option.some Jvm.ClassFile.FieldType.boolean)).before args0 about1 = true := code_word (m := ⟨1, 1⟩) (meth := k1m1) (c := k1c1) (by decide +kernel) rfl rfl rfl (by decide +kernel)
def codes1 : List Jvm.Cond := [Jvm.Cond.code x code maxLocals ret, Jvm.Cond.code ({ cls := "com/example/bindery/bindery/io/XmlFiles", name := "isText", desc := "(I)Z" } : Jvm.MethodName) prog_46_method_10_code (1 : Nat) (Option.some Jvm.ClassFile.FieldType.boolean), Jvm.Cond.code ({ cls := "com/example/bindery/bindery/io/XmlFilesIsTextPinLaw", name := "textKind", desc := "(I)Z" } : Jvm.MethodName) method_2_code (1 : Nat) (Option.some Jvm.ClassFile.FieldType.boolean)]
set_option maxRecDepth 65536 in
theorem codes_eq : words1.filter isCode = codes1 := rfl
theorem w_codes : ∀ c ∈ words1.filter isCode, c.before args0 about1 = true := by
  rw [codes_eq]
  intro c hc
  simp only [codes1, List.mem_cons, List.not_mem_nil, or_false] at hc
  rcases hc with rfl | rfl | rfl
  · exact w_c0
  · exact w_c1
  · exact w_c2
set_option maxRecDepth 65536 in
theorem w_t1 : words1.all (fun c => isCode c || c.before args0 about1) = true := by decide +kernel
theorem w_tables : (allAtoms (Jvm.Cond.code x code maxLocals ret :: tables_1)).before args0 about1 = true := by
  rw [allAtoms_all]
  show words1.all (fun c => c.before args0 about1) = true
  refine all_split ?_ w_codes
  rw [w_t1]
set_option maxRecDepth 65536 in
theorem w_case : (Jvm.Cond.and given_1 narrow_1).before args0 about1 = true := by decide +kernel
theorem w_applies : (headSpec (Jvm.Cond.code x code maxLocals ret :: tables_1) room_1).applies x e0.platform about1 = true :=
  (Spec.applies_iff w_frames).mpr ⟨w_running, w_runnable, w_alone, w_named, w_hears, w_ripe, w_room, w_tables⟩
theorem atStart : AtStart classFile x code maxLocals ret World_1 tables_1 room_1 Calls_1 rest_1 Pre_1 launch0 p0 e0 about1 theMethod args0 below0 :=
  ⟨lists_1, trivial, launch0.admits_env _ _ _, launch0.least_env, fairChoices_fair.cas, fairChoices_fair.clock, w_frames, w_args, w_heap, w_applies, trivial, trivial, w_case⟩
end start1
theorem witness_1 : WitnessClaimed_1 := ⟨start1.p0, start1.e0, start1.about1, start1.theMethod, start1.args0, start1.below0, start1.atStart⟩
end Jvm.Pilot.@@N@@
