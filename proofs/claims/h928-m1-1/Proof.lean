import JvmDerived
import JvmDerived.Pilot.@@N@@Statement
import JvmDerived.Pilot.@@N@@Code
set_option linter.unusedVariables false
set_option linter.unusedSimpArgs false
namespace Jvm.Pilot.@@N@@
open Jvm Jvm.ClassFile Sem Op Lib Jvm.Free Jvm.Stand Jvm.LawKit Jvm.RoadKit Bundle Jvm.Pilot.@@N@@.Jvm.D
section Own
variable {p : Program} {l : Launch} {e : Env} {R : Room} {s : State} {m : MethodId} {args : Array Value} {below : List Frame} {meth : Method} {c : Code} {T : State} {locs : List Loc} {cells slots : Nat} {Z : State} {a0 : Array Value} {h : Heap} {Φ : Outcome → State → Prop}
/-- what is left of a walk: from S the invocation ends as Φ says -/
def OGo (tb : Tables) (e : Env) (below : List Frame) (Φ : Outcome → State → Prop) (S : State) : Prop := ∃ s₂ o, Steps tb e below S s₂ ∧ s₂.status = .running ∧ Ended s₂ below o ∧ Φ o s₂
theorem OGo.st {tb : Tables} {S S' : State} (h : ∀ t, Steps tb e below S' t → Steps tb e below S t) (g : OGo tb e below Φ S') : OGo tb e below Φ S := by
  obtain ⟨s₂, o, h1, r⟩ := g
  exact ⟨s₂, o, h _ h1, r⟩
theorem OGo.fin (X : Stand p l e R s m args below meth c T locs cells slots) (hlk : meth.locks = false) {v : Option Value} (hv : meth.sig.returnType = none → v = none) {g : JFrame} {k n : Nat} (hk : cells ≤ k) (hn : slots ≤ n)
    (st : ∀ fs, (∀ (f : JFrame) (acts : List Action), f.method = m → f.locked = none → f.entered = [] → (doReturn e (T.setTop f) acts v).1 = T.setFrames fs) → Steps p.tables e below (T.setTop g) (T.setFrames fs))
    (hq : ∀ U, U.heap = T.heap → FrameEnd s (.returned v) U locs k n → Φ (.returned v) U) : OGo p.tables e below Φ (T.setTop g) := by
  obtain ⟨fs, hr, hrun, hended, hW, hsame⟩ := X.leave (v := v) hv hlk
  exact ⟨_, _, st fs hr, hrun, hended, hq _ rfl ⟨⟨_, rfl⟩, hW, hsame.mono hk hn⟩⟩
/-- a contract: what every body's theorem says -/
abbrev OCon (l : Launch) (Z : State) (y : MethodName) (bytes : ByteArray) (maxL : Nat) (ret : Option FieldType) (ws : List Jvm.Cond) (rm : Room) (as' : Array Value) (h0 : Heap) (Q : Option Value → Heap → List Loc → Prop) : Prop :=
  MetFree l y (head1 (Jvm.Cond.code y bytes maxL ret :: ws) rm) (fun a U => a = as' ∧ Z.Warmed39 U.vm ∧ U.heap = h0) (fun _ _ _ _ _ => True) (fun _ U o U' => ∃ v L, o = .returned v ∧ Q v U'.heap L ∧ FrameEnd U o U' L rm.cells rm.slots)
theorem OCon.of {y : MethodName} {bytes : ByteArray} {maxL : Nat} {ret : Option FieldType} {ws : List Jvm.Cond} {rm : Room} {as' : Array Value} {h0 : Heap} {Q : Option Value → Heap → List Loc → Prop} (hpl : plainFor y = true)
    (H : ∀ (p : Program) (e : Env) (s : State) (m : MethodId) (below : List Frame) (meth : Method) (c : Code) (s₁ : State) (Φ : Outcome → State → Prop), Stand p l e rm s m as' below meth c s₁ [] 0 0 → p.tables.exec = Jvm.exec → c.code = bytes → c.maxLocals = maxL → s.vm.findClass y.cls = some m.cls → meth.name = y.name → meth.sig.returnType = ret → meth.locks = false → Z.Warmed39 s.vm → s₁.heap = h0 →
      (∀ v L U, Q v U.heap L → FrameEnd s (.returned v) U L rm.cells rm.slots → Φ (.returned v) U) → OGo p.tables e below Φ (s₁.setTop (entryFrame m as' maxL))) :
    OCon l Z y bytes maxL ret ws rm as' h0 Q := by
  refine MetFree.of_bodySF hpl hisR ?_
  intro p e s m args below meth c s₁ Bd hml0 hP hK
  obtain ⟨rfl, hZ, hh⟩ := hP
  have e0 : s₁.heap = h0 := by rw [← hh, Bd.state]; rfl
  exact H p e s m below meth c s₁ _ (Stand.of_body Bd) Bd.exec Bd.bytes hml0 (findClass_of_methodNamed Bd.named) (name_of_methodNamed Bd.named Bd.method).1 Bd.returns Bd.notSynchronized hZ e0 (fun v L U hq hf => ⟨v, L, rfl, hq, hf⟩)
theorem own_callSt (X : Stand p l e R s m args below meth c T locs cells slots) (hx : p.tables.exec = Jvm.exec) (hZ : Z.Warmed39 s.vm) {own : String} {index : Nat} {y : MethodName} {bytes : ByteArray} {maxL : Nat} {ret : Option FieldType} {rm : Room} {as' : Array Value} {Q : Option Value → Heap → List Loc → Prop}
    (hown : s.vm.findClass own = some m.cls) (w1 : (Jvm.Cond.methodLink own index y).before a0 Z = true) (w2 : (Jvm.Cond.static y).before a0 Z = true) (w3 : (Jvm.Cond.initialized y.cls).before a0 Z = true) (w4 : (Jvm.Cond.code y bytes maxL ret).before a0 Z = true) (hy : y.cls ≠ "java/lang/invoke/MethodHandle" ∧ y.cls ≠ "java/lang/invoke/VarHandle")
    (hM : OCon l Z y bytes maxL ret [] rm as' h Q) (eT : T.heap = h) {W : Nat} (hf : rm.frames + 1 ≤ R.frames) (hl : W + (maxL + 11) + rm.locals ≤ R.locals) (hcl : cells + rm.cells ≤ R.cells) (hsl : slots + rm.slots ≤ R.slots)
    {pc : Nat} {ls : Array Slot} {stk : List Value} (hsize : ls.size = c.maxLocals) {argsL rest : List Value} (hlen : ∀ sig, parseMethodDescriptor y.desc = some sig → argsL.length = sig.parameters.length) (has : argsL.toArray = as') (hstack : stk = argsL.reverse ++ rest) (hW : (rest.map fun v => v.category).sum ≤ W)
    (hd : decode c.code pc = .ok (.invokestatic index, 3)) :
    ∃ v T' L, Stand p l e R s m args below meth c T' (locs ++ L) (cells + rm.cells) (slots + rm.slots) ∧ Q v T'.heap L ∧ ∀ target, Steps p.tables e below (T'.setTop (mkF m (pc + 3) ls (v.toList ++ rest))) target → Steps p.tables e below (T.setTop (mkF m pc ls stk)) target := by
  subst has
  obtain ⟨v, vm₁, ⟨T', L', k', n'⟩, -, X', ⟨L, hQ, l1, y1, z1⟩, st⟩ := Jvm.LawKit.callS X hx (y := y) hown (mvT hZ w1) (mvT hZ w2) (mvT hZ w3) (mvT hZ w4) hy (backOf (W := W) hM hZ w4 w3 hf hl) (g := mkF m pc ls stk) rfl hsize (argsL := argsL) (rest := rest) hlen hstack (by simpa using hW) hd (fun _ _ => ⟨rfl, eT, hcl, hsl⟩)
  dsimp only [Pt.U, Pt.locs, Pt.cells, Pt.slots] at X' l1 y1 z1 st hQ
  subst l1 y1 z1
  exact ⟨v, T', L, X', hQ, st⟩
theorem own_callSp (X : Stand p l e R s m args below meth c T locs cells slots) (hx : p.tables.exec = Jvm.exec) (hZ : Z.Warmed39 s.vm) {own : String} {index : Nat} {y : MethodName} {bytes : ByteArray} {maxL : Nat} {rm : Room} {as' : Array Value} {Q : Option Value → Heap → List Loc → Prop}
    (hy1 : y.name = "<init>") (hown : s.vm.findClass own = some m.cls) (w1 : (Jvm.Cond.methodLink own index y).before a0 Z = true) (w2 : (Jvm.Cond.instanceMethod y).before a0 Z = true) (w3 : (Jvm.Cond.initialized y.cls).before a0 Z = true) (w4 : (Jvm.Cond.code y bytes maxL none).before a0 Z = true) (hy : y.cls ≠ "java/lang/invoke/MethodHandle" ∧ y.cls ≠ "java/lang/invoke/VarHandle")
    (hM : OCon l Z y bytes maxL none [] rm as' h Q) (eT : T.heap = h) {W : Nat} (hf : rm.frames + 1 ≤ R.frames) (hl : W + (maxL + 11) + rm.locals ≤ R.locals) (hcl : cells + rm.cells ≤ R.cells) (hsl : slots + rm.slots ≤ R.slots)
    {pc : Nat} {ls : Array Slot} {stk : List Value} (hsize : ls.size = c.maxLocals) {a : Addr} {argsL rest : List Value} (hlen : ∀ sig, parseMethodDescriptor y.desc = some sig → argsL.length = sig.parameters.length) (has : (.ref a :: argsL).toArray = as') (hstack : stk = argsL.reverse ++ .ref a :: rest) (hW : (rest.map fun v => v.category).sum ≤ W)
    (hd : decode c.code pc = .ok (.invokespecial index, 3)) :
    ∃ v T' L, Stand p l e R s m args below meth c T' (locs ++ L) (cells + rm.cells) (slots + rm.slots) ∧ Q v T'.heap L ∧ ∀ target, Steps p.tables e below (T'.setTop (mkF m (pc + 3) ls (v.toList ++ rest))) target → Steps p.tables e below (T.setTop (mkF m pc ls stk)) target := by
  subst has
  obtain ⟨v, vm₁, ⟨T', L', k', n'⟩, -, X', ⟨L, hQ, l1, y1, z1⟩, st⟩ := X.specialBack hx (y := y) hy1 hown (mvT hZ w1) (mvT hZ w2) (mvT hZ w4) hy (backOf (W := W) hM hZ w4 w3 hf hl) (g := mkF m pc ls stk) rfl hsize (Steps.refl _) (a := a) (argsL := argsL) (rest := rest) hlen hstack (by simpa using hW) hd (fun _ _ => ⟨rfl, eT, hcl, hsl⟩)
  dsimp only [Pt.U, Pt.locs, Pt.cells, Pt.slots] at X' l1 y1 z1 st hQ
  subst l1 y1 z1
  exact ⟨v, T', L, X', hQ, fun t k => st.trans k⟩
theorem own_callVi (X : Stand p l e R s m args below meth c T locs cells slots) (hx : p.tables.exec = Jvm.exec) (hZ : Z.Warmed39 s.vm) {own C : String} {index : Nat} {y z : MethodName} {bytes : ByteArray} {maxL : Nat} {ret : Option FieldType} {rm : Room} {as' : Array Value} {Q : Option Value → Heap → List Loc → Prop}
    (hown : s.vm.findClass own = some m.cls) (w1 : (Jvm.Cond.methodLink own index y).before a0 Z = true) (w2 : (Jvm.Cond.declares y).before a0 Z = true) (nf : NotFace s y) (w3 : (Jvm.Cond.selects C y z).before a0 Z = true) (w4 : (Jvm.Cond.instanceMethod z).before a0 Z = true) (w5 : (Jvm.Cond.initialized z.cls).before a0 Z = true) (w6 : (Jvm.Cond.code z bytes maxL ret).before a0 Z = true) (hy : y.cls ≠ "java/lang/invoke/MethodHandle" ∧ y.cls ≠ "java/lang/invoke/VarHandle")
    (hM : OCon l Z z bytes maxL ret [] rm as' h Q) (eT : T.heap = h) {W : Nat} (hf : rm.frames + 1 ≤ R.frames) (hl : W + (maxL + 11) + rm.locals ≤ R.locals) (hcl : cells + rm.cells ≤ R.cells) (hsl : slots + rm.slots ≤ R.slots) {a : Addr} (E : Exa Z h a C)
    {pc : Nat} {ls : Array Slot} {stk : List Value} (hsize : ls.size = c.maxLocals) {argsL rest : List Value} (hlen : ∀ sig, parseMethodDescriptor y.desc = some sig → argsL.length = sig.parameters.length) (has : (.ref a :: argsL).toArray = as') (hstack : stk = argsL.reverse ++ .ref a :: rest) (hW : (rest.map fun v => v.category).sum ≤ W)
    (hd : decode c.code pc = .ok (.invokevirtual index, 3)) :
    ∃ v T' L, Stand p l e R s m args below meth c T' (locs ++ L) (cells + rm.cells) (slots + rm.slots) ∧ Q v T'.heap L ∧ ∀ target, Steps p.tables e below (T'.setTop (mkF m (pc + 3) ls (v.toList ++ rest))) target → Steps p.tables e below (T.setTop (mkF m pc ls stk)) target := by
  subst has
  obtain ⟨cq, kq, qa, qb, qc⟩ := isOf hZ eT E
  obtain ⟨v, vm₁, ⟨T', L', k', n'⟩, -, X', ⟨L, hQ, l1, y1, z1⟩, st⟩ := X.virtualBack hx (y := y) (z := z) hown (mvT hZ w1) (mvT hZ w2) nf (mvT hZ w3) (mvT hZ w4) hy (backOf (W := W) hM hZ w6 w5 hf hl) qa qc (g := mkF m pc ls stk) rfl hsize (Steps.refl _) (argsL := argsL) (rest := rest) hlen hstack (by simpa using hW) hd (fun _ _ => ⟨rfl, eT, hcl, hsl⟩)
  dsimp only [Pt.U, Pt.locs, Pt.cells, Pt.slots] at X' l1 y1 z1 st hQ
  subst l1 y1 z1
  exact ⟨v, T', L, X', hQ, fun t k => st.trans k⟩
theorem own_lremM {g : JFrame} {target : State} (X : Stand p l e R s m args below meth c T locs cells slots) (hx : p.tables.exec = Jvm.exec) (hg : g.method = m) {x y : Int64} {rest : List Value} (hd : decode c.code g.pc = .ok (.lrem, 1)) (hs : g.stack = .long y :: .long x :: rest) (hy : y ≠ 0)
    (hr : Steps p.tables e below (T.setTop { g with pc := g.pc + 1, stack := .long (x % y) :: rest }) target) : Steps p.tables e below (T.setTop g) target :=
  XT.lrem X.here hx hg hd hs hy (by rw [lrem_mod]; exact hr)
theorem own_nz {x : Int32} (q : x = 0 ∨ x = 1) : narrow .boolean (.int x) = .int x := by rcases q with rfl | rfl <;> rfl
theorem own_fz {x : Int32} (q : x = 0 ∨ x = 1) : fits .boolean (.int x) = true := by rcases q with rfl | rfl <;> rfl
theorem own_irr (x : Int32) : ¬ x < x := fun q => absurd (Int32.lt_iff_toInt_lt.mp q) (Int.lt_irrefl _)
theorem own_irrL (x : Int64) : ¬ x < x := fun q => absurd (Int64.lt_iff_toInt_lt.mp q) (Int.lt_irrefl _)
/-- a small int is one of the first n -/
theorem own_small {n : Nat} (hn : n < 2 ^ 31) (x : Int32) (h0 : ¬ x < 0) (h1 : x.toInt < n) : ∃ k : Fin n, x = Int32.ofInt k.val := by
  have h2 : 0 ≤ x.toInt := by
    rcases Int.lt_or_le x.toInt 0 with q | q
    · exact absurd (Int32.lt_iff_toInt_lt.mpr q) h0
    · exact q
  refine ⟨⟨x.toInt.toNat, by omega⟩, ?_⟩
  rw [Int.toNat_of_nonneg h2, Int32.ofInt_toInt]
end Own
theorem ow0 {Z : State} {a0 : Array Value} (hw : ∀ d ∈ tables_1, d.before a0 Z = true) : (Jvm.Cond.constantLong "com/example/crossweave/crossweave/CostProfileFragmentsPinLaw" (9 : Nat) (9223372036854775807 : Int64)).before a0 Z = true := hw _ (List.mem_of_getElem? (i := 0) rfl)
theorem ow1 {Z : State} {a0 : Array Value} (hw : ∀ d ∈ tables_1, d.before a0 Z = true) : (Jvm.Cond.methodLink "com/example/crossweave/crossweave/CostProfileFragmentsPinLaw" (11 : Nat) ({ cls := "java/lang/Math", name := "max", desc := "(JJ)J" } : Jvm.MethodName)).before a0 Z = true := hw _ (List.mem_of_getElem? (i := 1) rfl)
theorem ow2 {Z : State} {a0 : Array Value} (hw : ∀ d ∈ tables_1, d.before a0 Z = true) : (Jvm.Cond.static ({ cls := "java/lang/Math", name := "max", desc := "(JJ)J" } : Jvm.MethodName)).before a0 Z = true := hw _ (List.mem_of_getElem? (i := 2) rfl)
theorem ow3 {Z : State} {a0 : Array Value} (hw : ∀ d ∈ tables_1, d.before a0 Z = true) : (Jvm.Cond.initialized "java/lang/Math").before a0 Z = true := hw _ (List.mem_of_getElem? (i := 3) rfl)
theorem ow4 {Z : State} {a0 : Array Value} (hw : ∀ d ∈ tables_1, d.before a0 Z = true) : (Jvm.Cond.code ({ cls := "java/lang/Math", name := "max", desc := "(JJ)J" } : Jvm.MethodName) jdk_29_method_66_code (4 : Nat) (Option.some Jvm.ClassFile.FieldType.long)).before a0 Z = true := hw _ (List.mem_of_getElem? (i := 4) rfl)
theorem ow5 {Z : State} {a0 : Array Value} (hw : ∀ d ∈ tables_1, d.before a0 Z = true) : (Jvm.Cond.methodLink "com/example/crossweave/crossweave/CostProfileFragmentsPinLaw" (17 : Nat) ({ cls := "com/example/crossweave/crossweave/CostProfile", name := "fragments", desc := "(JJ)J" } : Jvm.MethodName)).before a0 Z = true := hw _ (List.mem_of_getElem? (i := 5) rfl)
theorem ow6 {Z : State} {a0 : Array Value} (hw : ∀ d ∈ tables_1, d.before a0 Z = true) : (Jvm.Cond.static ({ cls := "com/example/crossweave/crossweave/CostProfile", name := "fragments", desc := "(JJ)J" } : Jvm.MethodName)).before a0 Z = true := hw _ (List.mem_of_getElem? (i := 6) rfl)
theorem ow7 {Z : State} {a0 : Array Value} (hw : ∀ d ∈ tables_1, d.before a0 Z = true) : (Jvm.Cond.initialized "com/example/crossweave/crossweave/CostProfile").before a0 Z = true := hw _ (List.mem_of_getElem? (i := 7) rfl)
theorem ow8 {Z : State} {a0 : Array Value} (hw : ∀ d ∈ tables_1, d.before a0 Z = true) : (Jvm.Cond.code ({ cls := "com/example/crossweave/crossweave/CostProfile", name := "fragments", desc := "(JJ)J" } : Jvm.MethodName) prog_1_method_7_code (4 : Nat) (Option.some Jvm.ClassFile.FieldType.long)).before a0 Z = true := hw _ (List.mem_of_getElem? (i := 8) rfl)
def own_max (x y : Int64) : Int64 := if x < y then y else x
def own_frag (r f : Int64) : Int64 := if r % f = 0 then r / f + (0 : Int64) else r / f + (1 : Int64)
theorem own_maxI (y : Int64) : 1 ≤ (own_max 1 y).toInt := by
  have a1 : (1 : Int64).toInt = 1 := by decide
  simp only [own_max]; split <;> simp only [Int64.lt_iff_toInt_lt] at * <;> omega
theorem own_pos {r : Int64} : 0 ≤ (r &&& 9223372036854775807).toInt := by
  have m1 := c_maskL r 9223372036854775807 63 (by decide) (by decide); omega
theorem own_ne {f : Int64} (h : 1 ≤ f.toInt) : ¬ f = 0 := fun q => by rw [q] at h; exact absurd h (by decide)
theorem own_divI {r f : Int64} (hr : 0 ≤ r.toInt) (hf : 1 ≤ f.toInt) : (r / f).toInt = r.toInt / f.toInt := by
  have hn : f ≠ -1 := fun q => by rw [q] at hf; exact absurd hf (by decide)
  rw [Int64.toInt_div_of_ne_right r f hn, Int.tdiv_eq_ediv_of_nonneg hr]
theorem own_modI {r f : Int64} (hr : 0 ≤ r.toInt) : (r % f).toInt = r.toInt % f.toInt := by
  rw [Int64.toInt_mod, Int.tmod_eq_emod_of_nonneg hr]
/-- the quotient's two forms, in the integers -/
theorem own_int (r f : Int) (hr : 0 < r) (hf : 1 ≤ f) : (r % f = 0 → (r - 1) / f = r / f - 1 ∧ 1 ≤ r / f ∧ r / f * f = r) ∧ (r % f ≠ 0 → (r - 1) / f = r / f ∧ r / f * f = r - r % f ∧ 0 < r % f ∧ r % f < f ∧ 0 ≤ r / f) := by
  have h1 : r / f * f + r % f = r := by rw [Int.mul_comm]; exact Int.mul_ediv_add_emod r f
  have h2 := Int.emod_nonneg r (show f ≠ 0 by omega)
  have h3 := Int.emod_lt_of_pos r (show 0 < f by omega)
  have h4 := Int.ediv_nonneg (show 0 ≤ r by omega) (show 0 ≤ f by omega)
  constructor
  · intro q
    have h5 : r / f ≠ 0 := fun z => by rw [z] at h1; omega
    refine ⟨?_, by omega, by omega⟩
    have : r - 1 = (f - 1) + (r / f - 1) * f := by rw [Int.sub_mul]; omega
    rw [this, Int.add_mul_ediv_right _ _ (by omega), Int.ediv_eq_zero_of_lt (by omega) (by omega)]; omega
  · intro q
    refine ⟨?_, by omega, by omega, h3, h4⟩
    have : r - 1 = (r % f - 1) + (r / f) * f := by omega
    rw [this, Int.add_mul_ediv_right _ _ (by omega), Int.ediv_eq_zero_of_lt (by omega) (by omega)]
    have h6 : (r % f - 1 + r / f * f) = r - 1 := by omega
    omega
theorem own_z (f : Int64) (hf : 1 ≤ f.toInt) : own_frag 0 f = 0 := by
  have h0 : (0 : Int64).toInt = 0 := by decide
  have h1 : (0 : Int64) % f = 0 := Int64.toInt_inj.mp (by rw [own_modI (by rw [h0]; exact Int.le_refl 0), h0]; simp)
  have h2 : (0 : Int64) / f = 0 := Int64.toInt_inj.mp (by rw [own_divI (by rw [h0]; exact Int.le_refl 0) hf, h0]; simp)
  unfold own_frag
  rw [if_pos h1, h2]; rfl
theorem own_law (r f : Int64) (hr : 0 ≤ r.toInt) (hf : 1 ≤ f.toInt) (hn : ¬ r = 0) : own_frag r f = (r - 1) / f + 1 ∧ ¬ (r - (own_frag r f - 1) * f) < 1 ∧ ¬ f < (r - (own_frag r f - 1) * f) := by
  have h0 : (0 : Int64).toInt = 0 := by decide
  have a1 : (1 : Int64).toInt = 1 := by decide
  have R := rng64 r; have Fr := rng64 f
  have hp : 0 < r.toInt := by
    rcases Int.lt_or_eq_of_le hr with q | q
    · exact q
    · exact absurd (Int64.toInt_inj.mp (by rw [← q, h0])) hn
  obtain ⟨A, B⟩ := own_int r.toInt f.toInt hp hf
  have hd := own_divI (r := r) (f := f) hr hf
  have hm := own_modI (r := r) (f := f) hr
  have hle : r.toInt / f.toInt ≤ r.toInt := Int.ediv_le_self _ hr
  have hge : 0 ≤ r.toInt / f.toInt := Int.ediv_nonneg hr (by omega)
  have hs : (r - 1).toInt = r.toInt - 1 := by rw [XT.sub64 (by simp only [XT.fits64, a1]; omega), a1]
  have hd1 : ((r - 1) / f).toInt = (r.toInt - 1) / f.toInt := by rw [own_divI (by rw [hs]; omega) hf, hs]
  have hle1 : (r.toInt - 1) / f.toInt ≤ r.toInt - 1 := Int.ediv_le_self _ (by omega)
  have hge1 : 0 ≤ (r.toInt - 1) / f.toInt := Int.ediv_nonneg (by omega) (by omega)
  have he : ((r - 1) / f + 1).toInt = (r.toInt - 1) / f.toInt + 1 := by rw [XT.add64 (by simp only [XT.fits64, a1, hd1]; omega), a1, hd1]
  have key : ∀ K : Int, (own_frag r f).toInt = K → 1 ≤ K → K ≤ r.toInt → ∀ M : Int, (K - 1) * f.toInt = M → 0 ≤ M → M ≤ r.toInt → (r - (own_frag r f - 1) * f).toInt = r.toInt - M := by
    intro K e1 e2 e3 M e4 e5 e6
    have k1 : (own_frag r f - 1).toInt = K - 1 := by rw [XT.sub64 (by simp only [XT.fits64, a1, e1]; omega), a1, e1]
    have k2 : ((own_frag r f - 1) * f).toInt = M := by rw [XT.mul64 (by simp only [XT.fits64, k1, e4]; omega), k1, e4]
    rw [XT.sub64 (by simp only [XT.fits64, k2]; omega), k2]
  rcases Decidable.em (r % f = 0) with q | q
  · have q' : r.toInt % f.toInt = 0 := by rw [← hm, q, h0]
    obtain ⟨b1, b2, b3⟩ := A q'
    have e1 : (own_frag r f).toInt = r.toInt / f.toInt := by
      unfold own_frag; rw [if_pos q, XT.add64 (by simp only [XT.fits64, h0, hd]; omega), h0, hd]; omega
    have e2 := key _ e1 b2 hle (r.toInt - f.toInt) (by rw [Int.sub_mul, b3]; omega) (by have := Int.mul_le_mul_of_nonneg_right b2 (show 0 ≤ f.toInt by omega); omega) (by omega)
    refine ⟨Int64.toInt_inj.mp (by rw [e1, he, b1]; omega), ?_, ?_⟩
    · rw [Int64.lt_iff_toInt_lt, e2, a1]; omega
    · rw [Int64.lt_iff_toInt_lt, e2]; omega
  · have q' : r.toInt % f.toInt ≠ 0 := fun z => q (Int64.toInt_inj.mp (by rw [hm, z, h0]))
    obtain ⟨b1, b2, b3, b4, b5⟩ := B q'
    have hlt : r.toInt / f.toInt < r.toInt := by
      rcases Int.lt_or_eq_of_le hle with z | z
      · exact z
      · exfalso
        have : r.toInt ≤ r.toInt * f.toInt := by
          have := Int.mul_le_mul_of_nonneg_left hf hr
          omega
        rw [z] at b2; omega
    have e1 : (own_frag r f).toInt = r.toInt / f.toInt + 1 := by
      unfold own_frag; rw [if_neg q, XT.add64 (by simp only [XT.fits64, a1, hd]; omega), a1, hd]
    have e2 := key _ e1 (by omega) (by omega) (r.toInt - r.toInt % f.toInt) (by rw [show r.toInt / f.toInt + 1 - 1 = r.toInt / f.toInt by omega, b2]) (by have := Int.emod_lt_of_pos r.toInt (show 0 < f.toInt by omega); rw [← b2]; exact Int.mul_nonneg hge (by omega)) (by omega)
    refine ⟨Int64.toInt_inj.mp (by rw [e1, he, b1]), ?_, ?_⟩
    · rw [Int64.lt_iff_toInt_lt, e2, a1]; omega
    · rw [Int64.lt_iff_toInt_lt, e2]; omega

theorem pf_rm1 : plainFor (⟨"java/lang/Math", "max", "(JJ)J"⟩ : MethodName) = true := by decide +kernel
theorem d_jdk_29_method_66_0 : decode jdk_29_method_66_code 0 = .ok (.lload_n 0, 1) := by decide +kernel
theorem d_jdk_29_method_66_1 : decode jdk_29_method_66_code 1 = .ok (.lload_n 2, 1) := by decide +kernel
theorem d_jdk_29_method_66_2 : decode jdk_29_method_66_code 2 = .ok (.lcmp, 1) := by decide +kernel
theorem d_jdk_29_method_66_3 : decode jdk_29_method_66_code 3 = .ok (.ifCond .lt 7, 3) := by decide +kernel
theorem d_jdk_29_method_66_10 : decode jdk_29_method_66_code 10 = .ok (.lload_n 2, 1) := by decide +kernel
theorem d_jdk_29_method_66_11 : decode jdk_29_method_66_code 11 = .ok (.lreturn, 1) := by decide +kernel
theorem d_jdk_29_method_66_6 : decode jdk_29_method_66_code 6 = .ok (.lload_n 0, 1) := by decide +kernel
theorem d_jdk_29_method_66_7 : decode jdk_29_method_66_code 7 = .ok (.goto 4, 3) := by decide +kernel
theorem ef_rm1 (m : MethodId) (x0 : Int64) (x1 : Int64) : entryFrame m #[(.long x0), (.long x1)] 4 = mkF m 0 #[.val (.long x0), .second, .val (.long x1), .second] [] := by first | (simp [entryFrame, mkF, argsToLocals, Value.category]; done) | rfl
def Q_rm1 (Z : State) (x0 : Int64) (x1 : Int64) (h0 : Heap) (n0 : Nat) (v : Option Value) (h : Heap) (L : List Loc) : Prop := v = some (.long (own_max x0 x1)) ∧ Fr n0 L ∧ h = h0
set_option maxRecDepth 65536 in
set_option maxHeartbeats 40000000 in
theorem rm1 (l : Launch) (Z : State) (a0 : Array Value) (hw : ∀ d ∈ tables_1, d.before a0 Z = true) (ws : List Jvm.Cond) (x0 : Int64) (x1 : Int64) (h0 : Heap) (n0 : Nat) (Z0 : n0 ≤ h0.size)  :
    OCon l Z (⟨"java/lang/Math", "max", "(JJ)J"⟩ : MethodName) jdk_29_method_66_code 4 (some .long) ws ({ frames := 0, cells := 0, slots := 0, locals := 0 } : Room) #[(.long x0), (.long x1)] h0 (Q_rm1 Z x0 x1 h0 n0) := by
  refine OCon.of pf_rm1 ?_
  intro p e s m below meth c s₁ Φ X0 hx hby hml hown hnm hret hlk hZ e0 hΦ
  have N0 := Fr.nil n0
  refine OGo.st (fun _ kz => castTop (ef_rm1 m x0 x1) kz) ?_
  show OGo p.tables e below Φ (s₁.setTop (mkF m 0 #[.val (.long x0), .second, .val (.long x1), .second] []))
  refine OGo.st (fun _ kz => XT.lloadN X0.here hx rfl (hb hby d_jdk_29_method_66_0) rfl kz) ?_
  show OGo p.tables e below Φ (s₁.setTop (mkF m 1 #[.val (.long x0), .second, .val (.long x1), .second] [(.long x0)]))
  refine OGo.st (fun _ kz => XT.lloadN X0.here hx rfl (hb hby d_jdk_29_method_66_1) rfl kz) ?_
  show OGo p.tables e below Φ (s₁.setTop (mkF m 2 #[.val (.long x0), .second, .val (.long x1), .second] [(.long x1), (.long x0)]))
  refine OGo.st (fun _ kz => XT.lcmp X0.here hx rfl (hb hby d_jdk_29_method_66_2) rfl kz) ?_
  show OGo p.tables e below Φ (s₁.setTop (mkF m 3 #[.val (.long x0), .second, .val (.long x1), .second] [(.int (XT.cmpL x0 x1))]))
  by_cases hc1 : x0 < x1
  · refine OGo.st (fun _ kz => XS.ifYes X0.here hx rfl (pc0 := 3) (pc' := 10) rfl (hb hby d_jdk_29_method_66_3) rfl (XT.ll_lt_t hc1) (by decide) (by decide) kz) ?_
    show OGo p.tables e below Φ (s₁.setTop (mkF m 10 #[.val (.long x0), .second, .val (.long x1), .second] []))
    refine OGo.st (fun _ kz => XT.lloadN X0.here hx rfl (hb hby d_jdk_29_method_66_10) rfl kz) ?_
    show OGo p.tables e below Φ (s₁.setTop (mkF m 11 #[.val (.long x0), .second, .val (.long x1), .second] [(.long x1)]))
    refine OGo.fin X0 hlk (v := (some (.long x1))) (fun h => by rw [hret] at h; cases h) (by decide) (by decide) (fun fs hr => X0.lreturnOut hx hret (hb hby d_jdk_29_method_66_11) hr) fun U eU hF => hΦ _ _ _ ?_ hF
    rw [eU, e0]
    show Q_rm1 Z x0 x1 h0 n0 _ _ _
    exact ⟨by simp [own_max, hc1], N0, rfl⟩
  · refine OGo.st (fun _ kz => XS.ifNo X0.here hx rfl (hb hby d_jdk_29_method_66_3) rfl (XT.ll_lt_f hc1) kz) ?_
    show OGo p.tables e below Φ (s₁.setTop (mkF m 6 #[.val (.long x0), .second, .val (.long x1), .second] []))
    refine OGo.st (fun _ kz => XT.lloadN X0.here hx rfl (hb hby d_jdk_29_method_66_6) rfl kz) ?_
    show OGo p.tables e below Φ (s₁.setTop (mkF m 7 #[.val (.long x0), .second, .val (.long x1), .second] [(.long x0)]))
    refine OGo.st (fun _ kz => XS.goto X0.here hx rfl (pc0 := 7) (pc' := 11) rfl (hb hby d_jdk_29_method_66_7) (by decide) (by decide) kz) ?_
    show OGo p.tables e below Φ (s₁.setTop (mkF m 11 #[.val (.long x0), .second, .val (.long x1), .second] [(.long x0)]))
    refine OGo.fin X0 hlk (v := (some (.long x0))) (fun h => by rw [hret] at h; cases h) (by decide) (by decide) (fun fs hr => X0.lreturnOut hx hret (hb hby d_jdk_29_method_66_11) hr) fun U eU hF => hΦ _ _ _ ?_ hF
    rw [eU, e0]
    show Q_rm1 Z x0 x1 h0 n0 _ _ _
    exact ⟨by simp [own_max, hc1], N0, rfl⟩

theorem pn0 : plainName "com/example/crossweave/crossweave/CostProfile" = true := by first | (simp [plainName, overriddenIn]; done) | decide +kernel
theorem d_prog_1_method_7_0 : decode prog_1_method_7_code 0 = .ok (.lload_n 0, 1) := by decide +kernel
theorem d_prog_1_method_7_1 : decode prog_1_method_7_code 1 = .ok (.lload_n 2, 1) := by decide +kernel
theorem d_prog_1_method_7_2 : decode prog_1_method_7_code 2 = .ok (.ldiv, 1) := by decide +kernel
theorem d_prog_1_method_7_3 : decode prog_1_method_7_code 3 = .ok (.lload_n 0, 1) := by decide +kernel
theorem d_prog_1_method_7_4 : decode prog_1_method_7_code 4 = .ok (.lload_n 2, 1) := by decide +kernel
theorem d_prog_1_method_7_5 : decode prog_1_method_7_code 5 = .ok (.lrem, 1) := by decide +kernel
theorem d_prog_1_method_7_6 : decode prog_1_method_7_code 6 = .ok (.lconst 0, 1) := by decide +kernel
theorem d_prog_1_method_7_7 : decode prog_1_method_7_code 7 = .ok (.lcmp, 1) := by decide +kernel
theorem d_prog_1_method_7_8 : decode prog_1_method_7_code 8 = .ok (.ifCond .ne 7, 3) := by decide +kernel
theorem d_prog_1_method_7_11 : decode prog_1_method_7_code 11 = .ok (.iconst 0, 1) := by decide +kernel
theorem d_prog_1_method_7_12 : decode prog_1_method_7_code 12 = .ok (.goto 4, 3) := by decide +kernel
theorem d_prog_1_method_7_16 : decode prog_1_method_7_code 16 = .ok (.i2l, 1) := by decide +kernel
theorem d_prog_1_method_7_17 : decode prog_1_method_7_code 17 = .ok (.ladd, 1) := by decide +kernel
theorem d_prog_1_method_7_18 : decode prog_1_method_7_code 18 = .ok (.lreturn, 1) := by decide +kernel
theorem d_prog_1_method_7_15 : decode prog_1_method_7_code 15 = .ok (.iconst 1, 1) := by decide +kernel
theorem ef_rm2 (m : MethodId) (x0 : Int64) (x1 : Int64) : entryFrame m #[(.long x0), (.long x1)] 4 = mkF m 0 #[.val (.long x0), .second, .val (.long x1), .second] [] := by first | (simp [entryFrame, mkF, argsToLocals, Value.category]; done) | rfl
def Q_rm2 (Z : State) (r : Int64) (f : Int64) (h0 : Heap) (n0 : Nat) (v : Option Value) (h : Heap) (L : List Loc) : Prop := v = some (.long (own_frag r f)) ∧ Fr n0 L ∧ h = h0
set_option maxRecDepth 65536 in
set_option maxHeartbeats 40000000 in
theorem rm2 (l : Launch) (Z : State) (a0 : Array Value) (hw : ∀ d ∈ tables_1, d.before a0 Z = true) (ws : List Jvm.Cond) (r : Int64) (f : Int64) (h0 : Heap) (n0 : Nat) (Z0 : n0 ≤ h0.size) (hf : ¬ f = 0) :
    OCon l Z (⟨"com/example/crossweave/crossweave/CostProfile", "fragments", "(JJ)J"⟩ : MethodName) prog_1_method_7_code 4 (some .long) ws ({ frames := 0, cells := 0, slots := 0, locals := 0 } : Room) #[(.long r), (.long f)] h0 (Q_rm2 Z r f h0 n0) := by
  refine OCon.of (plainFor_of_name pn0) ?_
  intro p e s m below meth c s₁ Φ X0 hx hby hml hown hnm hret hlk hZ e0 hΦ
  have N0 := Fr.nil n0
  refine OGo.st (fun _ kz => castTop (ef_rm2 m r f) kz) ?_
  show OGo p.tables e below Φ (s₁.setTop (mkF m 0 #[.val (.long r), .second, .val (.long f), .second] []))
  refine OGo.st (fun _ kz => XT.lloadN X0.here hx rfl (hb hby d_prog_1_method_7_0) rfl kz) ?_
  show OGo p.tables e below Φ (s₁.setTop (mkF m 1 #[.val (.long r), .second, .val (.long f), .second] [(.long r)]))
  refine OGo.st (fun _ kz => XT.lloadN X0.here hx rfl (hb hby d_prog_1_method_7_1) rfl kz) ?_
  show OGo p.tables e below Φ (s₁.setTop (mkF m 2 #[.val (.long r), .second, .val (.long f), .second] [(.long f), (.long r)]))
  refine OGo.st (fun _ kz => XT.ldiv X0.here hx rfl (hb hby d_prog_1_method_7_2) rfl hf kz) ?_
  show OGo p.tables e below Φ (s₁.setTop (mkF m 3 #[.val (.long r), .second, .val (.long f), .second] [(.long (r / f))]))
  refine OGo.st (fun _ kz => XT.lloadN X0.here hx rfl (hb hby d_prog_1_method_7_3) rfl kz) ?_
  show OGo p.tables e below Φ (s₁.setTop (mkF m 4 #[.val (.long r), .second, .val (.long f), .second] [(.long r), (.long (r / f))]))
  refine OGo.st (fun _ kz => XT.lloadN X0.here hx rfl (hb hby d_prog_1_method_7_4) rfl kz) ?_
  show OGo p.tables e below Φ (s₁.setTop (mkF m 5 #[.val (.long r), .second, .val (.long f), .second] [(.long f), (.long r), (.long (r / f))]))
  refine OGo.st (fun _ kz => own_lremM X0 hx rfl (hb hby d_prog_1_method_7_5) rfl hf kz) ?_
  show OGo p.tables e below Φ (s₁.setTop (mkF m 6 #[.val (.long r), .second, .val (.long f), .second] [(.long (r % f)), (.long (r / f))]))
  refine OGo.st (fun _ kz => XT.lconst X0.here hx rfl (hb hby d_prog_1_method_7_6) kz) ?_
  show OGo p.tables e below Φ (s₁.setTop (mkF m 7 #[.val (.long r), .second, .val (.long f), .second] [(.long (0 : Int64)), (.long (r % f)), (.long (r / f))]))
  refine OGo.st (fun _ kz => XT.lcmp X0.here hx rfl (hb hby d_prog_1_method_7_7) rfl kz) ?_
  show OGo p.tables e below Φ (s₁.setTop (mkF m 8 #[.val (.long r), .second, .val (.long f), .second] [(.int (XT.cmpL (r % f) (0 : Int64))), (.long (r / f))]))
  by_cases hc1 : (r % f) = (0 : Int64)
  · refine OGo.st (fun _ kz => XS.ifNo X0.here hx rfl (hb hby d_prog_1_method_7_8) rfl (XT.ll_ne_f hc1) kz) ?_
    show OGo p.tables e below Φ (s₁.setTop (mkF m 11 #[.val (.long r), .second, .val (.long f), .second] [(.long (r / f))]))
    refine OGo.st (fun _ kz => XS.iconst X0.here hx rfl (hb hby d_prog_1_method_7_11) kz) ?_
    show OGo p.tables e below Φ (s₁.setTop (mkF m 12 #[.val (.long r), .second, .val (.long f), .second] [(.int (0 : Int32)), (.long (r / f))]))
    refine OGo.st (fun _ kz => XS.goto X0.here hx rfl (pc0 := 12) (pc' := 16) rfl (hb hby d_prog_1_method_7_12) (by decide) (by decide) kz) ?_
    show OGo p.tables e below Φ (s₁.setTop (mkF m 16 #[.val (.long r), .second, .val (.long f), .second] [(.int (0 : Int32)), (.long (r / f))]))
    refine OGo.st (fun _ kz => XT.i2l X0.here hx rfl (hb hby d_prog_1_method_7_16) rfl kz) ?_
    show OGo p.tables e below Φ (s₁.setTop (mkF m 17 #[.val (.long r), .second, .val (.long f), .second] [(.long (0 : Int64)), (.long (r / f))]))
    refine OGo.st (fun _ kz => XT.ladd X0.here hx rfl (hb hby d_prog_1_method_7_17) rfl kz) ?_
    show OGo p.tables e below Φ (s₁.setTop (mkF m 18 #[.val (.long r), .second, .val (.long f), .second] [(.long ((r / f) + (0 : Int64)))]))
    refine OGo.fin X0 hlk (v := (some (.long ((r / f) + (0 : Int64))))) (fun h => by rw [hret] at h; cases h) (by decide) (by decide) (fun fs hr => X0.lreturnOut hx hret (hb hby d_prog_1_method_7_18) hr) fun U eU hF => hΦ _ _ _ ?_ hF
    rw [eU, e0]
    show Q_rm2 Z r f h0 n0 _ _ _
    exact ⟨by simp [own_frag, hc1], N0, rfl⟩
  · refine OGo.st (fun _ kz => XS.ifYes X0.here hx rfl (pc0 := 8) (pc' := 15) rfl (hb hby d_prog_1_method_7_8) rfl (XT.ll_ne_t hc1) (by decide) (by decide) kz) ?_
    show OGo p.tables e below Φ (s₁.setTop (mkF m 15 #[.val (.long r), .second, .val (.long f), .second] [(.long (r / f))]))
    refine OGo.st (fun _ kz => XS.iconst X0.here hx rfl (hb hby d_prog_1_method_7_15) kz) ?_
    show OGo p.tables e below Φ (s₁.setTop (mkF m 16 #[.val (.long r), .second, .val (.long f), .second] [(.int (1 : Int32)), (.long (r / f))]))
    refine OGo.st (fun _ kz => XT.i2l X0.here hx rfl (hb hby d_prog_1_method_7_16) rfl kz) ?_
    show OGo p.tables e below Φ (s₁.setTop (mkF m 17 #[.val (.long r), .second, .val (.long f), .second] [(.long (1 : Int64)), (.long (r / f))]))
    refine OGo.st (fun _ kz => XT.ladd X0.here hx rfl (hb hby d_prog_1_method_7_17) rfl kz) ?_
    show OGo p.tables e below Φ (s₁.setTop (mkF m 18 #[.val (.long r), .second, .val (.long f), .second] [(.long ((r / f) + (1 : Int64)))]))
    refine OGo.fin X0 hlk (v := (some (.long ((r / f) + (1 : Int64))))) (fun h => by rw [hret] at h; cases h) (by decide) (by decide) (fun fs hr => X0.lreturnOut hx hret (hb hby d_prog_1_method_7_18) hr) fun U eU hF => hΦ _ _ _ ?_ hF
    rw [eU, e0]
    show Q_rm2 Z r f h0 n0 _ _ _
    exact ⟨by simp [own_frag, hc1], N0, rfl⟩

theorem pn1 : plainName "com/example/crossweave/crossweave/CostProfileFragmentsPinLaw" = true := by first | (simp [plainName, overriddenIn]; done) | decide +kernel
theorem pd0 : parseMethodDescriptor "(JJ)J" = some ⟨[.long, .long], some .long⟩ := by decide +kernel
theorem ef_rm0 (m : MethodId) (x0 : Int64) (x1 : Int64) : entryFrame m #[(.long x0), (.long x1)] maxLocals = mkF m 0 #[.val (.long x0), .second, .val (.long x1), .second, .unset, .unset, .unset, .unset, .unset, .unset, .unset, .unset, .unset, .unset] [] := by first | (simp [entryFrame, mkF, argsToLocals, Value.category, maxLocals]; done) | rfl
def Q_rm0 (Z : State) (xr : Int64) (xf : Int64) (h0 : Heap) (n0 : Nat) (v : Option Value) (h : Heap) (L : List Loc) : Prop := v = some (.int (1 : Int32)) ∧ Fr n0 L
set_option maxRecDepth 65536 in
set_option maxHeartbeats 40000000 in
theorem rm0 (l : Launch) (Z : State) (a0 : Array Value) (hw : ∀ d ∈ tables_1, d.before a0 Z = true) (ws : List Jvm.Cond) (xr : Int64) (xf : Int64) (h0 : Heap) (n0 : Nat) (Z0 : n0 ≤ h0.size)  :
    OCon l Z x code maxLocals ret ws room_1 #[(.long xr), (.long xf)] h0 (Q_rm0 Z xr xf h0 n0) := by
  refine OCon.of (plainFor_of_name pn1) ?_
  intro p e s m below meth c s₁ Φ X0 hx hby hml hown hnm hret hlk hZ e0 hΦ
  have N0 := Fr.nil n0
  refine OGo.st (fun _ kz => castTop (ef_rm0 m xr xf) kz) ?_
  show OGo p.tables e below Φ (s₁.setTop (mkF m 0 #[.val (.long xr), .second, .val (.long xf), .second, .unset, .unset, .unset, .unset, .unset, .unset, .unset, .unset, .unset, .unset] []))
  refine OGo.st (fun _ kz => XT.lloadN X0.here hx rfl (hb hby at_0) rfl kz) ?_
  show OGo p.tables e below Φ (s₁.setTop (mkF m 1 #[.val (.long xr), .second, .val (.long xf), .second, .unset, .unset, .unset, .unset, .unset, .unset, .unset, .unset, .unset, .unset] [(.long xr)]))
  refine OGo.st (fun _ kz => X0.ldc2J hx hown (mvT hZ (ow0 hw)) rfl (hb hby at_1) kz) ?_
  show OGo p.tables e below Φ (s₁.setTop (mkF m 4 #[.val (.long xr), .second, .val (.long xf), .second, .unset, .unset, .unset, .unset, .unset, .unset, .unset, .unset, .unset, .unset] [(.long (9223372036854775807 : Int64)), (.long xr)]))
  refine OGo.st (fun _ kz => XT.land X0.here hx rfl (hb hby at_4) rfl kz) ?_
  show OGo p.tables e below Φ (s₁.setTop (mkF m 5 #[.val (.long xr), .second, .val (.long xf), .second, .unset, .unset, .unset, .unset, .unset, .unset, .unset, .unset, .unset, .unset] [(.long (xr &&& (9223372036854775807 : Int64)))]))
  obtain ⟨r, h_r⟩ : ∃ z, z = (xr &&& (9223372036854775807 : Int64)) := ⟨_, rfl⟩
  rw [← h_r]
  show OGo p.tables e below Φ (s₁.setTop (mkF m 5 #[.val (.long xr), .second, .val (.long xf), .second, .unset, .unset, .unset, .unset, .unset, .unset, .unset, .unset, .unset, .unset] [(.long r)]))
  refine OGo.st (fun _ kz => XT.lstore X0.here hx rfl (hb hby at_5) rfl (l' := #[.val (.long xr), .second, .val (.long xf), .second, .val (.long r), .second, .unset, .unset, .unset, .unset, .unset, .unset, .unset, .unset]) rfl kz) ?_
  show OGo p.tables e below Φ (s₁.setTop (mkF m 7 #[.val (.long xr), .second, .val (.long xf), .second, .val (.long r), .second, .unset, .unset, .unset, .unset, .unset, .unset, .unset, .unset] []))
  refine OGo.st (fun _ kz => XT.lconst X0.here hx rfl (hb hby at_7) kz) ?_
  show OGo p.tables e below Φ (s₁.setTop (mkF m 8 #[.val (.long xr), .second, .val (.long xf), .second, .val (.long r), .second, .unset, .unset, .unset, .unset, .unset, .unset, .unset, .unset] [(.long (1 : Int64))]))
  refine OGo.st (fun _ kz => XT.lloadN X0.here hx rfl (hb hby at_8) rfl kz) ?_
  show OGo p.tables e below Φ (s₁.setTop (mkF m 9 #[.val (.long xr), .second, .val (.long xf), .second, .val (.long r), .second, .unset, .unset, .unset, .unset, .unset, .unset, .unset, .unset] [(.long xf), (.long (1 : Int64))]))
  refine OGo.st (fun _ kz => X0.ldc2J hx hown (mvT hZ (ow0 hw)) rfl (hb hby at_9) kz) ?_
  show OGo p.tables e below Φ (s₁.setTop (mkF m 12 #[.val (.long xr), .second, .val (.long xf), .second, .val (.long r), .second, .unset, .unset, .unset, .unset, .unset, .unset, .unset, .unset] [(.long (9223372036854775807 : Int64)), (.long xf), (.long (1 : Int64))]))
  refine OGo.st (fun _ kz => XT.land X0.here hx rfl (hb hby at_12) rfl kz) ?_
  show OGo p.tables e below Φ (s₁.setTop (mkF m 13 #[.val (.long xr), .second, .val (.long xf), .second, .val (.long r), .second, .unset, .unset, .unset, .unset, .unset, .unset, .unset, .unset] [(.long (xf &&& (9223372036854775807 : Int64))), (.long (1 : Int64))]))
  obtain ⟨_, T1, L1, X1, hQ1, st1⟩ := own_callSt X0 hx hZ hown (ow1 hw) (ow2 hw) (ow3 hw) (ow4 hw) (by decide) (rm1 l Z a0 hw [] (1 : Int64) (xf &&& (9223372036854775807 : Int64)) h0 n0 Z0 ) e0 (W := 0) (by decide) (by decide) (by decide) (by decide) (pc := 13) (ls := #[.val (.long xr), .second, .val (.long xf), .second, .val (.long r), .second, .unset, .unset, .unset, .unset, .unset, .unset, .unset, .unset]) (stk := [(.long (xf &&& (9223372036854775807 : Int64))), (.long (1 : Int64))]) (by rw [hml]; rfl) (argsL := [(.long (1 : Int64)), (.long (xf &&& (9223372036854775807 : Int64)))]) (rest := []) (lenOf pd0 rfl) rfl rfl (Nat.le_of_eq rfl) (hb hby at_13)
  obtain ⟨rfl, Nq1, e1⟩ := hQ1
  have N1 := Fr.app N0 Nq1
  refine OGo.st st1 ?_
  show OGo p.tables e below Φ (T1.setTop (mkF m 16 #[.val (.long xr), .second, .val (.long xf), .second, .val (.long r), .second, .unset, .unset, .unset, .unset, .unset, .unset, .unset, .unset] [(.long (own_max (1 : Int64) (xf &&& (9223372036854775807 : Int64))))]))
  obtain ⟨f, h_f⟩ : ∃ z, z = (own_max (1 : Int64) (xf &&& (9223372036854775807 : Int64))) := ⟨_, rfl⟩
  rw [← h_f]
  show OGo p.tables e below Φ (T1.setTop (mkF m 16 #[.val (.long xr), .second, .val (.long xf), .second, .val (.long r), .second, .unset, .unset, .unset, .unset, .unset, .unset, .unset, .unset] [(.long f)]))
  have f1 : 1 ≤ f.toInt := by rw [h_f]; exact own_maxI _
  refine OGo.st (fun _ kz => XT.lstore X1.here hx rfl (hb hby at_16) rfl (l' := #[.val (.long xr), .second, .val (.long xf), .second, .val (.long r), .second, .val (.long f), .second, .unset, .unset, .unset, .unset, .unset, .unset]) rfl kz) ?_
  show OGo p.tables e below Φ (T1.setTop (mkF m 18 #[.val (.long xr), .second, .val (.long xf), .second, .val (.long r), .second, .val (.long f), .second, .unset, .unset, .unset, .unset, .unset, .unset] []))
  refine OGo.st (fun _ kz => XT.lload X1.here hx rfl (hb hby at_18) rfl kz) ?_
  show OGo p.tables e below Φ (T1.setTop (mkF m 20 #[.val (.long xr), .second, .val (.long xf), .second, .val (.long r), .second, .val (.long f), .second, .unset, .unset, .unset, .unset, .unset, .unset] [(.long r)]))
  refine OGo.st (fun _ kz => XT.lload X1.here hx rfl (hb hby at_20) rfl kz) ?_
  show OGo p.tables e below Φ (T1.setTop (mkF m 22 #[.val (.long xr), .second, .val (.long xf), .second, .val (.long r), .second, .val (.long f), .second, .unset, .unset, .unset, .unset, .unset, .unset] [(.long f), (.long r)]))
  obtain ⟨_, T2, L2, X2, hQ2, st2⟩ := own_callSt X1 hx hZ hown (ow5 hw) (ow6 hw) (ow7 hw) (ow8 hw) (by decide) (rm2 l Z a0 hw [] r f h0 n0 Z0 (own_ne f1)) e1 (W := 0) (by decide) (by decide) (by decide) (by decide) (pc := 22) (ls := #[.val (.long xr), .second, .val (.long xf), .second, .val (.long r), .second, .val (.long f), .second, .unset, .unset, .unset, .unset, .unset, .unset]) (stk := [(.long f), (.long r)]) (by rw [hml]; rfl) (argsL := [(.long r), (.long f)]) (rest := []) (lenOf pd0 rfl) rfl rfl (Nat.le_of_eq rfl) (hb hby at_22)
  obtain ⟨rfl, Nq2, e2⟩ := hQ2
  have N2 := Fr.app N1 Nq2
  refine OGo.st st2 ?_
  show OGo p.tables e below Φ (T2.setTop (mkF m 25 #[.val (.long xr), .second, .val (.long xf), .second, .val (.long r), .second, .val (.long f), .second, .unset, .unset, .unset, .unset, .unset, .unset] [(.long (own_frag r f))]))
  refine OGo.st (fun _ kz => XT.lstore X2.here hx rfl (hb hby at_25) rfl (l' := #[.val (.long xr), .second, .val (.long xf), .second, .val (.long r), .second, .val (.long f), .second, .val (.long (own_frag r f)), .second, .unset, .unset, .unset, .unset]) rfl kz) ?_
  show OGo p.tables e below Φ (T2.setTop (mkF m 27 #[.val (.long xr), .second, .val (.long xf), .second, .val (.long r), .second, .val (.long f), .second, .val (.long (own_frag r f)), .second, .unset, .unset, .unset, .unset] []))
  refine OGo.st (fun _ kz => XT.lload X2.here hx rfl (hb hby at_27) rfl kz) ?_
  show OGo p.tables e below Φ (T2.setTop (mkF m 29 #[.val (.long xr), .second, .val (.long xf), .second, .val (.long r), .second, .val (.long f), .second, .val (.long (own_frag r f)), .second, .unset, .unset, .unset, .unset] [(.long r)]))
  refine OGo.st (fun _ kz => XT.lconst X2.here hx rfl (hb hby at_29) kz) ?_
  show OGo p.tables e below Φ (T2.setTop (mkF m 30 #[.val (.long xr), .second, .val (.long xf), .second, .val (.long r), .second, .val (.long f), .second, .val (.long (own_frag r f)), .second, .unset, .unset, .unset, .unset] [(.long (0 : Int64)), (.long r)]))
  refine OGo.st (fun _ kz => XT.lcmp X2.here hx rfl (hb hby at_30) rfl kz) ?_
  show OGo p.tables e below Φ (T2.setTop (mkF m 31 #[.val (.long xr), .second, .val (.long xf), .second, .val (.long r), .second, .val (.long f), .second, .val (.long (own_frag r f)), .second, .unset, .unset, .unset, .unset] [(.int (XT.cmpL r (0 : Int64)))]))
  by_cases hc3 : r = (0 : Int64)
  · refine OGo.st (fun _ kz => XS.ifNo X2.here hx rfl (hb hby at_31) rfl (XT.ll_ne_f hc3) kz) ?_
    show OGo p.tables e below Φ (T2.setTop (mkF m 34 #[.val (.long xr), .second, .val (.long xf), .second, .val (.long r), .second, .val (.long f), .second, .val (.long (own_frag r f)), .second, .unset, .unset, .unset, .unset] []))
    refine OGo.st (fun _ kz => XT.lload X2.here hx rfl (hb hby at_34) rfl kz) ?_
    show OGo p.tables e below Φ (T2.setTop (mkF m 36 #[.val (.long xr), .second, .val (.long xf), .second, .val (.long r), .second, .val (.long f), .second, .val (.long (own_frag r f)), .second, .unset, .unset, .unset, .unset] [(.long (own_frag r f))]))
    refine OGo.st (fun _ kz => XT.lconst X2.here hx rfl (hb hby at_36) kz) ?_
    show OGo p.tables e below Φ (T2.setTop (mkF m 37 #[.val (.long xr), .second, .val (.long xf), .second, .val (.long r), .second, .val (.long f), .second, .val (.long (own_frag r f)), .second, .unset, .unset, .unset, .unset] [(.long (0 : Int64)), (.long (own_frag r f))]))
    refine OGo.st (fun _ kz => XT.lcmp X2.here hx rfl (hb hby at_37) rfl kz) ?_
    show OGo p.tables e below Φ (T2.setTop (mkF m 38 #[.val (.long xr), .second, .val (.long xf), .second, .val (.long r), .second, .val (.long f), .second, .val (.long (own_frag r f)), .second, .unset, .unset, .unset, .unset] [(.int (XT.cmpL (own_frag r f) (0 : Int64)))]))
    by_cases hc4 : (own_frag r f) = (0 : Int64)
    · refine OGo.st (fun _ kz => XS.ifNo X2.here hx rfl (hb hby at_38) rfl (XT.ll_ne_f hc4) kz) ?_
      show OGo p.tables e below Φ (T2.setTop (mkF m 41 #[.val (.long xr), .second, .val (.long xf), .second, .val (.long r), .second, .val (.long f), .second, .val (.long (own_frag r f)), .second, .unset, .unset, .unset, .unset] []))
      refine OGo.st (fun _ kz => XS.iconst X2.here hx rfl (hb hby at_41) kz) ?_
      show OGo p.tables e below Φ (T2.setTop (mkF m 42 #[.val (.long xr), .second, .val (.long xf), .second, .val (.long r), .second, .val (.long f), .second, .val (.long (own_frag r f)), .second, .unset, .unset, .unset, .unset] [(.int (1 : Int32))]))
      refine OGo.st (fun _ kz => XS.goto X2.here hx rfl (pc0 := 42) (pc' := 46) rfl (hb hby at_42) (by decide) (by decide) kz) ?_
      show OGo p.tables e below Φ (T2.setTop (mkF m 46 #[.val (.long xr), .second, .val (.long xf), .second, .val (.long r), .second, .val (.long f), .second, .val (.long (own_frag r f)), .second, .unset, .unset, .unset, .unset] [(.int (1 : Int32))]))
      refine OGo.fin X2 hlk (v := (some (.int (1 : Int32)))) (fun h => by rw [hret] at h; cases h) (by decide) (by decide) (fun fs hr => X2.ireturnOut hx hret rfl (by simp) (hb hby at_46) hr) fun U eU hF => hΦ _ _ _ ?_ hF
      rw [eU, e2]
      show Q_rm0 Z xr xf h0 n0 _ _ _
      exact ⟨rfl, N2⟩
    · refine OGo.st (fun _ kz => XS.ifYes X2.here hx rfl (pc0 := 38) (pc' := 45) rfl (hb hby at_38) rfl (XT.ll_ne_t hc4) (by decide) (by decide) kz) ?_
      show OGo p.tables e below Φ (T2.setTop (mkF m 45 #[.val (.long xr), .second, .val (.long xf), .second, .val (.long r), .second, .val (.long f), .second, .val (.long (own_frag r f)), .second, .unset, .unset, .unset, .unset] []))
      refine OGo.st (fun _ kz => XS.iconst X2.here hx rfl (hb hby at_45) kz) ?_
      show OGo p.tables e below Φ (T2.setTop (mkF m 46 #[.val (.long xr), .second, .val (.long xf), .second, .val (.long r), .second, .val (.long f), .second, .val (.long (own_frag r f)), .second, .unset, .unset, .unset, .unset] [(.int (0 : Int32))]))
      exact absurd (by rw [hc3]; exact own_z _ f1) hc4
  · refine OGo.st (fun _ kz => XS.ifYes X2.here hx rfl (pc0 := 31) (pc' := 47) rfl (hb hby at_31) rfl (XT.ll_ne_t hc3) (by decide) (by decide) kz) ?_
    show OGo p.tables e below Φ (T2.setTop (mkF m 47 #[.val (.long xr), .second, .val (.long xf), .second, .val (.long r), .second, .val (.long f), .second, .val (.long (own_frag r f)), .second, .unset, .unset, .unset, .unset] []))
    refine OGo.st (fun _ kz => XT.lload X2.here hx rfl (hb hby at_47) rfl kz) ?_
    show OGo p.tables e below Φ (T2.setTop (mkF m 49 #[.val (.long xr), .second, .val (.long xf), .second, .val (.long r), .second, .val (.long f), .second, .val (.long (own_frag r f)), .second, .unset, .unset, .unset, .unset] [(.long r)]))
    refine OGo.st (fun _ kz => XT.lconst X2.here hx rfl (hb hby at_49) kz) ?_
    show OGo p.tables e below Φ (T2.setTop (mkF m 50 #[.val (.long xr), .second, .val (.long xf), .second, .val (.long r), .second, .val (.long f), .second, .val (.long (own_frag r f)), .second, .unset, .unset, .unset, .unset] [(.long (1 : Int64)), (.long r)]))
    refine OGo.st (fun _ kz => XT.lsub X2.here hx rfl (hb hby at_50) rfl kz) ?_
    show OGo p.tables e below Φ (T2.setTop (mkF m 51 #[.val (.long xr), .second, .val (.long xf), .second, .val (.long r), .second, .val (.long f), .second, .val (.long (own_frag r f)), .second, .unset, .unset, .unset, .unset] [(.long (r - (1 : Int64)))]))
    refine OGo.st (fun _ kz => XT.lload X2.here hx rfl (hb hby at_51) rfl kz) ?_
    show OGo p.tables e below Φ (T2.setTop (mkF m 53 #[.val (.long xr), .second, .val (.long xf), .second, .val (.long r), .second, .val (.long f), .second, .val (.long (own_frag r f)), .second, .unset, .unset, .unset, .unset] [(.long f), (.long (r - (1 : Int64)))]))
    refine OGo.st (fun _ kz => XT.ldiv X2.here hx rfl (hb hby at_53) rfl (own_ne f1) kz) ?_
    show OGo p.tables e below Φ (T2.setTop (mkF m 54 #[.val (.long xr), .second, .val (.long xf), .second, .val (.long r), .second, .val (.long f), .second, .val (.long (own_frag r f)), .second, .unset, .unset, .unset, .unset] [(.long ((r - (1 : Int64)) / f))]))
    refine OGo.st (fun _ kz => XT.lconst X2.here hx rfl (hb hby at_54) kz) ?_
    show OGo p.tables e below Φ (T2.setTop (mkF m 55 #[.val (.long xr), .second, .val (.long xf), .second, .val (.long r), .second, .val (.long f), .second, .val (.long (own_frag r f)), .second, .unset, .unset, .unset, .unset] [(.long (1 : Int64)), (.long ((r - (1 : Int64)) / f))]))
    refine OGo.st (fun _ kz => XT.ladd X2.here hx rfl (hb hby at_55) rfl kz) ?_
    show OGo p.tables e below Φ (T2.setTop (mkF m 56 #[.val (.long xr), .second, .val (.long xf), .second, .val (.long r), .second, .val (.long f), .second, .val (.long (own_frag r f)), .second, .unset, .unset, .unset, .unset] [(.long (((r - (1 : Int64)) / f) + (1 : Int64)))]))
    refine OGo.st (fun _ kz => XT.lstore X2.here hx rfl (hb hby at_56) rfl (l' := #[.val (.long xr), .second, .val (.long xf), .second, .val (.long r), .second, .val (.long f), .second, .val (.long (own_frag r f)), .second, .val (.long (((r - (1 : Int64)) / f) + (1 : Int64))), .second, .unset, .unset]) rfl kz) ?_
    show OGo p.tables e below Φ (T2.setTop (mkF m 58 #[.val (.long xr), .second, .val (.long xf), .second, .val (.long r), .second, .val (.long f), .second, .val (.long (own_frag r f)), .second, .val (.long (((r - (1 : Int64)) / f) + (1 : Int64))), .second, .unset, .unset] []))
    refine OGo.st (fun _ kz => XT.lload X2.here hx rfl (hb hby at_58) rfl kz) ?_
    show OGo p.tables e below Φ (T2.setTop (mkF m 60 #[.val (.long xr), .second, .val (.long xf), .second, .val (.long r), .second, .val (.long f), .second, .val (.long (own_frag r f)), .second, .val (.long (((r - (1 : Int64)) / f) + (1 : Int64))), .second, .unset, .unset] [(.long (own_frag r f))]))
    refine OGo.st (fun _ kz => XT.lload X2.here hx rfl (hb hby at_60) rfl kz) ?_
    show OGo p.tables e below Φ (T2.setTop (mkF m 62 #[.val (.long xr), .second, .val (.long xf), .second, .val (.long r), .second, .val (.long f), .second, .val (.long (own_frag r f)), .second, .val (.long (((r - (1 : Int64)) / f) + (1 : Int64))), .second, .unset, .unset] [(.long (((r - (1 : Int64)) / f) + (1 : Int64))), (.long (own_frag r f))]))
    refine OGo.st (fun _ kz => XT.lcmp X2.here hx rfl (hb hby at_62) rfl kz) ?_
    show OGo p.tables e below Φ (T2.setTop (mkF m 63 #[.val (.long xr), .second, .val (.long xf), .second, .val (.long r), .second, .val (.long f), .second, .val (.long (own_frag r f)), .second, .val (.long (((r - (1 : Int64)) / f) + (1 : Int64))), .second, .unset, .unset] [(.int (XT.cmpL (own_frag r f) (((r - (1 : Int64)) / f) + (1 : Int64))))]))
    by_cases hc5 : (own_frag r f) = (((r - (1 : Int64)) / f) + (1 : Int64))
    · refine OGo.st (fun _ kz => XS.ifYes X2.here hx rfl (pc0 := 63) (pc' := 68) rfl (hb hby at_63) rfl (XT.ll_eq_t hc5) (by decide) (by decide) kz) ?_
      show OGo p.tables e below Φ (T2.setTop (mkF m 68 #[.val (.long xr), .second, .val (.long xf), .second, .val (.long r), .second, .val (.long f), .second, .val (.long (own_frag r f)), .second, .val (.long (((r - (1 : Int64)) / f) + (1 : Int64))), .second, .unset, .unset] []))
      refine OGo.st (fun _ kz => XT.lload X2.here hx rfl (hb hby at_68) rfl kz) ?_
      show OGo p.tables e below Φ (T2.setTop (mkF m 70 #[.val (.long xr), .second, .val (.long xf), .second, .val (.long r), .second, .val (.long f), .second, .val (.long (own_frag r f)), .second, .val (.long (((r - (1 : Int64)) / f) + (1 : Int64))), .second, .unset, .unset] [(.long r)]))
      refine OGo.st (fun _ kz => XT.lload X2.here hx rfl (hb hby at_70) rfl kz) ?_
      show OGo p.tables e below Φ (T2.setTop (mkF m 72 #[.val (.long xr), .second, .val (.long xf), .second, .val (.long r), .second, .val (.long f), .second, .val (.long (own_frag r f)), .second, .val (.long (((r - (1 : Int64)) / f) + (1 : Int64))), .second, .unset, .unset] [(.long (own_frag r f)), (.long r)]))
      refine OGo.st (fun _ kz => XT.lconst X2.here hx rfl (hb hby at_72) kz) ?_
      show OGo p.tables e below Φ (T2.setTop (mkF m 73 #[.val (.long xr), .second, .val (.long xf), .second, .val (.long r), .second, .val (.long f), .second, .val (.long (own_frag r f)), .second, .val (.long (((r - (1 : Int64)) / f) + (1 : Int64))), .second, .unset, .unset] [(.long (1 : Int64)), (.long (own_frag r f)), (.long r)]))
      refine OGo.st (fun _ kz => XT.lsub X2.here hx rfl (hb hby at_73) rfl kz) ?_
      show OGo p.tables e below Φ (T2.setTop (mkF m 74 #[.val (.long xr), .second, .val (.long xf), .second, .val (.long r), .second, .val (.long f), .second, .val (.long (own_frag r f)), .second, .val (.long (((r - (1 : Int64)) / f) + (1 : Int64))), .second, .unset, .unset] [(.long ((own_frag r f) - (1 : Int64))), (.long r)]))
      refine OGo.st (fun _ kz => XT.lload X2.here hx rfl (hb hby at_74) rfl kz) ?_
      show OGo p.tables e below Φ (T2.setTop (mkF m 76 #[.val (.long xr), .second, .val (.long xf), .second, .val (.long r), .second, .val (.long f), .second, .val (.long (own_frag r f)), .second, .val (.long (((r - (1 : Int64)) / f) + (1 : Int64))), .second, .unset, .unset] [(.long f), (.long ((own_frag r f) - (1 : Int64))), (.long r)]))
      refine OGo.st (fun _ kz => XT.lmul X2.here hx rfl (hb hby at_76) rfl kz) ?_
      show OGo p.tables e below Φ (T2.setTop (mkF m 77 #[.val (.long xr), .second, .val (.long xf), .second, .val (.long r), .second, .val (.long f), .second, .val (.long (own_frag r f)), .second, .val (.long (((r - (1 : Int64)) / f) + (1 : Int64))), .second, .unset, .unset] [(.long (((own_frag r f) - (1 : Int64)) * f)), (.long r)]))
      refine OGo.st (fun _ kz => XT.lsub X2.here hx rfl (hb hby at_77) rfl kz) ?_
      show OGo p.tables e below Φ (T2.setTop (mkF m 78 #[.val (.long xr), .second, .val (.long xf), .second, .val (.long r), .second, .val (.long f), .second, .val (.long (own_frag r f)), .second, .val (.long (((r - (1 : Int64)) / f) + (1 : Int64))), .second, .unset, .unset] [(.long (r - (((own_frag r f) - (1 : Int64)) * f)))]))
      refine OGo.st (fun _ kz => XT.lstore X2.here hx rfl (hb hby at_78) rfl (l' := #[.val (.long xr), .second, .val (.long xf), .second, .val (.long r), .second, .val (.long f), .second, .val (.long (own_frag r f)), .second, .val (.long (((r - (1 : Int64)) / f) + (1 : Int64))), .second, .val (.long (r - (((own_frag r f) - (1 : Int64)) * f))), .second]) rfl kz) ?_
      show OGo p.tables e below Φ (T2.setTop (mkF m 80 #[.val (.long xr), .second, .val (.long xf), .second, .val (.long r), .second, .val (.long f), .second, .val (.long (own_frag r f)), .second, .val (.long (((r - (1 : Int64)) / f) + (1 : Int64))), .second, .val (.long (r - (((own_frag r f) - (1 : Int64)) * f))), .second] []))
      refine OGo.st (fun _ kz => XT.lload X2.here hx rfl (hb hby at_80) rfl kz) ?_
      show OGo p.tables e below Φ (T2.setTop (mkF m 82 #[.val (.long xr), .second, .val (.long xf), .second, .val (.long r), .second, .val (.long f), .second, .val (.long (own_frag r f)), .second, .val (.long (((r - (1 : Int64)) / f) + (1 : Int64))), .second, .val (.long (r - (((own_frag r f) - (1 : Int64)) * f))), .second] [(.long (r - (((own_frag r f) - (1 : Int64)) * f)))]))
      refine OGo.st (fun _ kz => XT.lconst X2.here hx rfl (hb hby at_82) kz) ?_
      show OGo p.tables e below Φ (T2.setTop (mkF m 83 #[.val (.long xr), .second, .val (.long xf), .second, .val (.long r), .second, .val (.long f), .second, .val (.long (own_frag r f)), .second, .val (.long (((r - (1 : Int64)) / f) + (1 : Int64))), .second, .val (.long (r - (((own_frag r f) - (1 : Int64)) * f))), .second] [(.long (1 : Int64)), (.long (r - (((own_frag r f) - (1 : Int64)) * f)))]))
      refine OGo.st (fun _ kz => XT.lcmp X2.here hx rfl (hb hby at_83) rfl kz) ?_
      show OGo p.tables e below Φ (T2.setTop (mkF m 84 #[.val (.long xr), .second, .val (.long xf), .second, .val (.long r), .second, .val (.long f), .second, .val (.long (own_frag r f)), .second, .val (.long (((r - (1 : Int64)) / f) + (1 : Int64))), .second, .val (.long (r - (((own_frag r f) - (1 : Int64)) * f))), .second] [(.int (XT.cmpL (r - (((own_frag r f) - (1 : Int64)) * f)) (1 : Int64)))]))
      by_cases hc6 : (r - (((own_frag r f) - (1 : Int64)) * f)) < (1 : Int64)
      · refine OGo.st (fun _ kz => XS.ifYes X2.here hx rfl (pc0 := 84) (pc' := 99) rfl (hb hby at_84) rfl (XT.ll_lt_t hc6) (by decide) (by decide) kz) ?_
        show OGo p.tables e below Φ (T2.setTop (mkF m 99 #[.val (.long xr), .second, .val (.long xf), .second, .val (.long r), .second, .val (.long f), .second, .val (.long (own_frag r f)), .second, .val (.long (((r - (1 : Int64)) / f) + (1 : Int64))), .second, .val (.long (r - (((own_frag r f) - (1 : Int64)) * f))), .second] []))
        refine OGo.st (fun _ kz => XS.iconst X2.here hx rfl (hb hby at_99) kz) ?_
        show OGo p.tables e below Φ (T2.setTop (mkF m 100 #[.val (.long xr), .second, .val (.long xf), .second, .val (.long r), .second, .val (.long f), .second, .val (.long (own_frag r f)), .second, .val (.long (((r - (1 : Int64)) / f) + (1 : Int64))), .second, .val (.long (r - (((own_frag r f) - (1 : Int64)) * f))), .second] [(.int (0 : Int32))]))
        exact absurd hc6 (own_law r f (by rw [h_r]; exact own_pos) f1 hc3).2.1
      · refine OGo.st (fun _ kz => XS.ifNo X2.here hx rfl (hb hby at_84) rfl (XT.ll_lt_f hc6) kz) ?_
        show OGo p.tables e below Φ (T2.setTop (mkF m 87 #[.val (.long xr), .second, .val (.long xf), .second, .val (.long r), .second, .val (.long f), .second, .val (.long (own_frag r f)), .second, .val (.long (((r - (1 : Int64)) / f) + (1 : Int64))), .second, .val (.long (r - (((own_frag r f) - (1 : Int64)) * f))), .second] []))
        refine OGo.st (fun _ kz => XT.lload X2.here hx rfl (hb hby at_87) rfl kz) ?_
        show OGo p.tables e below Φ (T2.setTop (mkF m 89 #[.val (.long xr), .second, .val (.long xf), .second, .val (.long r), .second, .val (.long f), .second, .val (.long (own_frag r f)), .second, .val (.long (((r - (1 : Int64)) / f) + (1 : Int64))), .second, .val (.long (r - (((own_frag r f) - (1 : Int64)) * f))), .second] [(.long (r - (((own_frag r f) - (1 : Int64)) * f)))]))
        refine OGo.st (fun _ kz => XT.lload X2.here hx rfl (hb hby at_89) rfl kz) ?_
        show OGo p.tables e below Φ (T2.setTop (mkF m 91 #[.val (.long xr), .second, .val (.long xf), .second, .val (.long r), .second, .val (.long f), .second, .val (.long (own_frag r f)), .second, .val (.long (((r - (1 : Int64)) / f) + (1 : Int64))), .second, .val (.long (r - (((own_frag r f) - (1 : Int64)) * f))), .second] [(.long f), (.long (r - (((own_frag r f) - (1 : Int64)) * f)))]))
        refine OGo.st (fun _ kz => XT.lcmp X2.here hx rfl (hb hby at_91) rfl kz) ?_
        show OGo p.tables e below Φ (T2.setTop (mkF m 92 #[.val (.long xr), .second, .val (.long xf), .second, .val (.long r), .second, .val (.long f), .second, .val (.long (own_frag r f)), .second, .val (.long (((r - (1 : Int64)) / f) + (1 : Int64))), .second, .val (.long (r - (((own_frag r f) - (1 : Int64)) * f))), .second] [(.int (XT.cmpL (r - (((own_frag r f) - (1 : Int64)) * f)) f))]))
        by_cases hc7 : f < (r - (((own_frag r f) - (1 : Int64)) * f))
        · refine OGo.st (fun _ kz => XS.ifYes X2.here hx rfl (pc0 := 92) (pc' := 99) rfl (hb hby at_92) rfl (XT.ll_gt_t hc7) (by decide) (by decide) kz) ?_
          show OGo p.tables e below Φ (T2.setTop (mkF m 99 #[.val (.long xr), .second, .val (.long xf), .second, .val (.long r), .second, .val (.long f), .second, .val (.long (own_frag r f)), .second, .val (.long (((r - (1 : Int64)) / f) + (1 : Int64))), .second, .val (.long (r - (((own_frag r f) - (1 : Int64)) * f))), .second] []))
          refine OGo.st (fun _ kz => XS.iconst X2.here hx rfl (hb hby at_99) kz) ?_
          show OGo p.tables e below Φ (T2.setTop (mkF m 100 #[.val (.long xr), .second, .val (.long xf), .second, .val (.long r), .second, .val (.long f), .second, .val (.long (own_frag r f)), .second, .val (.long (((r - (1 : Int64)) / f) + (1 : Int64))), .second, .val (.long (r - (((own_frag r f) - (1 : Int64)) * f))), .second] [(.int (0 : Int32))]))
          exact absurd hc7 (own_law r f (by rw [h_r]; exact own_pos) f1 hc3).2.2
        · refine OGo.st (fun _ kz => XS.ifNo X2.here hx rfl (hb hby at_92) rfl (XT.ll_gt_f hc7) kz) ?_
          show OGo p.tables e below Φ (T2.setTop (mkF m 95 #[.val (.long xr), .second, .val (.long xf), .second, .val (.long r), .second, .val (.long f), .second, .val (.long (own_frag r f)), .second, .val (.long (((r - (1 : Int64)) / f) + (1 : Int64))), .second, .val (.long (r - (((own_frag r f) - (1 : Int64)) * f))), .second] []))
          refine OGo.st (fun _ kz => XS.iconst X2.here hx rfl (hb hby at_95) kz) ?_
          show OGo p.tables e below Φ (T2.setTop (mkF m 96 #[.val (.long xr), .second, .val (.long xf), .second, .val (.long r), .second, .val (.long f), .second, .val (.long (own_frag r f)), .second, .val (.long (((r - (1 : Int64)) / f) + (1 : Int64))), .second, .val (.long (r - (((own_frag r f) - (1 : Int64)) * f))), .second] [(.int (1 : Int32))]))
          refine OGo.st (fun _ kz => XS.goto X2.here hx rfl (pc0 := 96) (pc' := 100) rfl (hb hby at_96) (by decide) (by decide) kz) ?_
          show OGo p.tables e below Φ (T2.setTop (mkF m 100 #[.val (.long xr), .second, .val (.long xf), .second, .val (.long r), .second, .val (.long f), .second, .val (.long (own_frag r f)), .second, .val (.long (((r - (1 : Int64)) / f) + (1 : Int64))), .second, .val (.long (r - (((own_frag r f) - (1 : Int64)) * f))), .second] [(.int (1 : Int32))]))
          refine OGo.fin X2 hlk (v := (some (.int (1 : Int32)))) (fun h => by rw [hret] at h; cases h) (by decide) (by decide) (fun fs hr => X2.ireturnOut hx hret rfl (by simp) (hb hby at_100) hr) fun U eU hF => hΦ _ _ _ ?_ hF
          rw [eU, e2]
          show Q_rm0 Z xr xf h0 n0 _ _ _
          exact ⟨rfl, N2⟩
    · refine OGo.st (fun _ kz => XS.ifNo X2.here hx rfl (hb hby at_63) rfl (XT.ll_eq_f hc5) kz) ?_
      show OGo p.tables e below Φ (T2.setTop (mkF m 66 #[.val (.long xr), .second, .val (.long xf), .second, .val (.long r), .second, .val (.long f), .second, .val (.long (own_frag r f)), .second, .val (.long (((r - (1 : Int64)) / f) + (1 : Int64))), .second, .unset, .unset] []))
      refine OGo.st (fun _ kz => XS.iconst X2.here hx rfl (hb hby at_66) kz) ?_
      show OGo p.tables e below Φ (T2.setTop (mkF m 67 #[.val (.long xr), .second, .val (.long xf), .second, .val (.long r), .second, .val (.long f), .second, .val (.long (own_frag r f)), .second, .val (.long (((r - (1 : Int64)) / f) + (1 : Int64))), .second, .unset, .unset] [(.int (0 : Int32))]))
      exact absurd (own_law r f (by rw [h_r]; exact own_pos) f1 hc3).1 hc5

set_option maxRecDepth 65536 in
set_option maxHeartbeats 40000000 in
theorem comes_1 {Post : Tables → Env → Array Value → State → Outcome → State → Prop} (hpost : ∀ tb e args s v u, (limb_1_1.after args s (.returned v) u = true ∧ limb_1_2.after args s (.returned v) u = true ∧ True) → FrameEnd s (.returned v) u (Jvm.fieldLocs frame_1_writes args s ++ Jvm.arrayLocs frame_1_arrays args s ++ Jvm.staticLocs frame_1_statics s) 0 0 → Post tb e args s (.returned v) u) :
    ArmFor flags0 classFile x code maxLocals ret World_1 tables_1 room_1 Calls_1 rest_1 Pre_1 Post := by
  intro l hfl _ _ p e ha hc hk s m args below hf hA hF happ hP
  obtain ⟨hcalls, hrest, hpre⟩ := hP
  obtain ⟨-, -, -, hnamed, -, -, -, hat⟩ := (Spec.applies_iff hf).mp happ
  obtain ⟨hg, hn⟩ := and_e (Cond.before_iff.mp (show (Jvm.Cond.and given_1 narrow_1).before args s = true from hpre))
  obtain ⟨g0, r0⟩ := and_e hg
  obtain ⟨k0, r1⟩ := and_e r0
  have k1 := r1
  obtain ⟨w0, w1, rfl⟩ : ∃ w0 w1 : Value, args = #[w0, w1] := by
    have hs : args.size = 2 := by simpa [Cond.value, given_1] using g0
    obtain ⟨L⟩ := args
    match L, hs with
    | [w0, w1], _ => exact ⟨w0, w1, rfl⟩
  have hw := fun d (hd : d ∈ tables_1) => atoms_spec (ws := Jvm.Cond.code x code maxLocals ret :: tables_1) hat d (List.mem_cons_of_mem _ hd)
  have hfit : Fit s := fun {y c} hc i hi => by
    obtain ⟨ha, rfl⟩ := Array.getElem?_eq_some_iff.mp hc
    have q := List.all_eq_true.mp ((Array.all_eq_true_iff_forall_mem.mp hF) _ (Array.getElem_mem ha)) i (List.mem_range.mpr hi)
    simpa [Array.getElem?_eq_getElem hi] using q
  obtain ⟨i0, ei0⟩ := isL_v k0
  obtain rfl : w0 = (.long i0) := Option.some.inj ei0
  obtain ⟨i1, ei1⟩ := isL_v k1
  obtain rfl : w1 = (.long i1) := Option.some.inj ei1
  obtain ⟨n, o, h1, h2, h3, _, L, rfl, ⟨rfl, N⟩, hq⟩ := rm0 l s _ hw tables_1 i0 i1  s.heap s.heap.size (Nat.le_refl _)  p e ha hc hk s m _ below hf ((Spec.applies_iff_loose hf).mp happ).1 ⟨rfl, State.Warmed39.refl s, rfl⟩ trivial
  refine ⟨n, _, h1, h2, h3, hpost _ _ _ _ _ _ ⟨Cond.after_iff.mpr rfl, Cond.after_iff.mpr (eq_i res_at (Term.int_eval (1)) rfl), trivial⟩ ⟨hq.1, hq.2.1, (hq.2.2.sift fun y hy => Or.inr (N y hy)).mono (by decide) (by decide)⟩⟩
theorem main_1_1 : Claimed_1_1 := comes_1 fun _ _ _ _ _ _ h hF => ⟨h.1, hF⟩
theorem main_1_2 : Claimed_1_2 := comes_1 fun _ _ _ _ _ _ h hF => ⟨h.2.1, hF⟩
end Jvm.Pilot.@@N@@
namespace Jvm.Pilot.@@N@@
open Jvm Jvm.ClassFile Sem Op Lib Jvm.Free Jvm.Stand Jvm.Pilot.@@N@@.Jvm.D
/-! MADE BY PROGRAM (witnessworld.py) out of the Statement's table words and the real class files: 11 classes; the members and pool entries that the words name. The judged class is class 1, her method 1. -/
namespace start1
open Jvm.ClassFile
def u (s : String) : CpInfo := .utf8 (stringToUtf16 s)
/-- a pool by its gaps: so many unusable entries, then the entry; so many at the end -/
def gap : Nat → List CpInfo → List CpInfo
  | 0, r => r
  | n + 1, r => .unusable :: gap n r
def poolList (es : List (Nat × CpInfo)) (last : Nat) : List CpInfo := es.foldr (fun e r => gap e.1 (e.2 :: r)) (gap last [])
def pool (es : List (Nat × CpInfo)) (last : Nat) : Array CpInfo := ⟨poolList es last⟩
def fileOf (pool : Array CpInfo) (this : Nat) (attrs : Array Attribute := #[]) (ms : Array MethodInfo := #[]) (fl : Nat := 33) (sup : Nat := 0) (ifs : Array Nat := #[]) (fds : Array FieldInfo := #[]) : ClassFile where
  minorVersion := 0
  majorVersion := 65
  constantPool := pool
  accessFlags := fl
  thisClass := this
  superClass := sup
  interfaces := ifs
  fields := fds
  methods := ms
  attributes := attrs
def plain (name : String) (sup : Option ClassId) : Class where
  name := name
  kind := .ordinary
  loader := none
  accessFlags := 33
  super := sup
  interfaces := #[]
  cf := none
  fields := #[]
  methods := #[]
  instanceTypes := #[]
  staticTypes := #[]
  resolved := #[]
  callSites := []
  init := .initialized
  statics := none
  mirror := none

def pool0 : Array CpInfo := pool [(5, u "<init>"), (0, u "()V"), (1, .class_ 10), (1, u "java/lang/Object")] 113

def k0m0 : Method := { name := "<init>", desc := "()V", sig := { parameters := [], returnType := none }, accessFlags := 1, code := none }
/-- java/lang/Object -/
def k0 : Class := { plain "java/lang/Object" none with
  accessFlags := 33
  interfaces := #[]
  cf := some (fileOf pool0 8 #[] #[{ accessFlags := 1, nameIndex := 5, descriptorIndex := 6, attributes := #[] }] 33 0 #[] #[])
  fields := #[]
  methods := #[k0m0]
  instanceTypes := #[]
  staticTypes := #[]
  resolved := Array.replicate 124 none
  statics := none }

def pool1 : Array CpInfo := pool [(2, .class_ 4), (1, u "java/lang/Object"), (0, u "<init>"), (0, u "()V"), (2, .long 9223372036854775807), (1, .methodref 12 13), (0, .class_ 14), (0, .nameAndType 15 16), (0, u "java/lang/Math"), (0, u "max"), (0, u "(JJ)J"), (0, .methodref 18 19), (0, .class_ 20), (0, .nameAndType 21 16), (0, u "com/example/crossweave/crossweave/CostProfile"), (0, u "fragments"), (0, .class_ 23), (0, u "com/example/crossweave/crossweave/CostProfileFragmentsPinLaw"), (2, u "law"), (0, u "(JJ)Z")] 3

def k1m0 : Method := { name := "<init>", desc := "()V", sig := { parameters := [], returnType := none }, accessFlags := 1, code := none }
def k1c1 : Code := { maxStack := 6, maxLocals := 14, code := code, exceptionTable := #[], attributes := #[] }
def k1m1 : Method := { name := "law", desc := "(JJ)Z", sig := { parameters := [.long, .long], returnType := some .boolean }, accessFlags := 9, code := some k1c1 }
/-- com/example/crossweave/crossweave/CostProfileFragmentsPinLaw -/
def k1 : Class := { plain "com/example/crossweave/crossweave/CostProfileFragmentsPinLaw" (some 0) with
  accessFlags := 49
  interfaces := #[]
  cf := some (fileOf pool1 22 #[] #[{ accessFlags := 1, nameIndex := 5, descriptorIndex := 6, attributes := #[] }, { accessFlags := 9, nameIndex := 26, descriptorIndex := 27, attributes := #[] }] 49 2 #[] #[])
  fields := #[]
  methods := #[k1m0, k1m1]
  instanceTypes := #[]
  staticTypes := #[]
  resolved := Array.replicate 31 none
  statics := none }

def pool2 : Array CpInfo := pool [(1, .class_ 2), (0, u "java/lang/Math"), (1, .class_ 6), (1, u "java/lang/Object"), (0, u "<init>"), (0, u "()V"), (89, .class_ 100), (1, u "java/lang/Math$RandomNumberGeneratorHolder"), (20, u "(JJ)J"), (50, u "negativeZeroFloatBits"), (0, u "J"), (2, u "negativeZeroDoubleBits"), (21, u "max"), (46, u "$assertionsDisabled"), (0, u "Z"), (91, u "twoToTheDoubleScaleDown"), (0, u "D"), (4, u "twoToTheDoubleScaleUp"), (9, u "E"), (3, u "PI"), (2, u "TAU"), (2, u "DEGREES_TO_RADIANS"), (0, u "RADIANS_TO_DEGREES")] 94

def k2m0 : Method := { name := "<init>", desc := "()V", sig := { parameters := [], returnType := none }, accessFlags := 2, code := none }
def k2c1 : Code := { maxStack := 4, maxLocals := 4, code := jdk_29_method_66_code, exceptionTable := #[], attributes := #[] }
def k2m1 : Method := { name := "max", desc := "(JJ)J", sig := { parameters := [.long, .long], returnType := some .long }, accessFlags := 9, code := some k2c1 }
/-- java/lang/Math -/
def k2 : Class := { plain "java/lang/Math" (some 0) with
  accessFlags := 49
  interfaces := #[]
  cf := some (fileOf pool2 1 #[.nestMembers #[98]] #[{ accessFlags := 2, nameIndex := 7, descriptorIndex := 8, attributes := #[] }, { accessFlags := 9, nameIndex := 198, descriptorIndex := 121, attributes := #[] }] 49 4 #[] #[{ accessFlags := 25, nameIndex := 354, descriptorIndex := 339, attributes := #[] }, { accessFlags := 25, nameIndex := 358, descriptorIndex := 339, attributes := #[] }, { accessFlags := 25, nameIndex := 361, descriptorIndex := 339, attributes := #[] }, { accessFlags := 26, nameIndex := 364, descriptorIndex := 339, attributes := #[] }, { accessFlags := 26, nameIndex := 365, descriptorIndex := 339, attributes := #[] }, { accessFlags := 26, nameIndex := 172, descriptorIndex := 173, attributes := #[] }, { accessFlags := 26, nameIndex := 176, descriptorIndex := 173, attributes := #[] }, { accessFlags := 8, nameIndex := 344, descriptorIndex := 339, attributes := #[] }, { accessFlags := 8, nameIndex := 338, descriptorIndex := 339, attributes := #[] }, { accessFlags := 4120, nameIndex := 245, descriptorIndex := 246, attributes := #[] }])
  fields := #[{ name := "E", type := .double, accessFlags := 25, slot := 0, constantValue := 0 }, { name := "PI", type := .double, accessFlags := 25, slot := 1, constantValue := 0 }, { name := "TAU", type := .double, accessFlags := 25, slot := 2, constantValue := 0 }, { name := "DEGREES_TO_RADIANS", type := .double, accessFlags := 26, slot := 3, constantValue := 0 }, { name := "RADIANS_TO_DEGREES", type := .double, accessFlags := 26, slot := 4, constantValue := 0 }, { name := "negativeZeroFloatBits", type := .long, accessFlags := 26, slot := 5, constantValue := 0 }, { name := "negativeZeroDoubleBits", type := .long, accessFlags := 26, slot := 6, constantValue := 0 }, { name := "twoToTheDoubleScaleUp", type := .double, accessFlags := 8, slot := 7, constantValue := 0 }, { name := "twoToTheDoubleScaleDown", type := .double, accessFlags := 8, slot := 8, constantValue := 0 }, { name := "$assertionsDisabled", type := .boolean, accessFlags := 4120, slot := 9, constantValue := 0 }]
  methods := #[k2m0, k2m1]
  instanceTypes := #[]
  staticTypes := #[.double, .double, .double, .double, .double, .long, .long, .double, .double, .boolean]
  resolved := Array.replicate 460 none
  statics := none }

def pool3 : Array CpInfo := pool [(2, .class_ 4), (1, u "java/lang/Object"), (0, u "<init>"), (0, u "()V"), (0, .class_ 8), (0, u "java/lang/Record")] 13

def k3m0 : Method := { name := "<init>", desc := "()V", sig := { parameters := [], returnType := none }, accessFlags := 4, code := none }
/-- java/lang/Record -/
def k3 : Class := { plain "java/lang/Record" (some 0) with
  accessFlags := 1057
  interfaces := #[]
  cf := some (fileOf pool3 7 #[] #[{ accessFlags := 4, nameIndex := 5, descriptorIndex := 6, attributes := #[] }] 1057 2 #[] #[])
  fields := #[]
  methods := #[k3m0]
  instanceTypes := #[]
  staticTypes := #[]
  resolved := Array.replicate 22 none
  statics := none }

def pool4 : Array CpInfo := pool [(2, .class_ 4), (1, u "java/lang/Record"), (3, .class_ 10), (1, u "com/example/crossweave/crossweave/CostProfile"), (0, u "a0"), (0, u "Ljava/math/BigDecimal;"), (2, u "a1"), (2, u "b0"), (2, u "b1"), (2, u "c"), (73, u "KEYS"), (0, u "Ljava/util/List;"), (37, u "FREE_OVERLAP"), (28, u "DECIMAL"), (0, u "Ljava/util/regex/Pattern;"), (50, u "QUOTIENT"), (0, u "Ljava/math/MathContext;"), (11, u "fragments"), (0, u "(JJ)J")] 140

def k4c0 : Code := { maxStack := 6, maxLocals := 4, code := prog_1_method_7_code, exceptionTable := #[], attributes := #[] }
def k4m0 : Method := { name := "fragments", desc := "(JJ)J", sig := { parameters := [.long, .long], returnType := some .long }, accessFlags := 8, code := some k4c0 }
/-- com/example/crossweave/crossweave/CostProfile -/
def k4 : Class := { plain "com/example/crossweave/crossweave/CostProfile" (some 3) with
  accessFlags := 48
  interfaces := #[]
  cf := some (fileOf pool4 8 #[] #[{ accessFlags := 8, nameIndex := 231, descriptorIndex := 232, attributes := #[] }] 48 2 #[] #[{ accessFlags := 18, nameIndex := 11, descriptorIndex := 12, attributes := #[] }, { accessFlags := 18, nameIndex := 15, descriptorIndex := 12, attributes := #[] }, { accessFlags := 18, nameIndex := 18, descriptorIndex := 12, attributes := #[] }, { accessFlags := 18, nameIndex := 21, descriptorIndex := 12, attributes := #[] }, { accessFlags := 18, nameIndex := 24, descriptorIndex := 12, attributes := #[] }, { accessFlags := 24, nameIndex := 137, descriptorIndex := 12, attributes := #[] }, { accessFlags := 26, nameIndex := 166, descriptorIndex := 167, attributes := #[] }, { accessFlags := 26, nameIndex := 98, descriptorIndex := 99, attributes := #[] }, { accessFlags := 26, nameIndex := 218, descriptorIndex := 219, attributes := #[] }])
  fields := #[{ name := "a0", type := (.object "java/math/BigDecimal"), accessFlags := 18, slot := 0, constantValue := 0 }, { name := "a1", type := (.object "java/math/BigDecimal"), accessFlags := 18, slot := 1, constantValue := 0 }, { name := "b0", type := (.object "java/math/BigDecimal"), accessFlags := 18, slot := 2, constantValue := 0 }, { name := "b1", type := (.object "java/math/BigDecimal"), accessFlags := 18, slot := 3, constantValue := 0 }, { name := "c", type := (.object "java/math/BigDecimal"), accessFlags := 18, slot := 4, constantValue := 0 }, { name := "FREE_OVERLAP", type := (.object "java/math/BigDecimal"), accessFlags := 24, slot := 0, constantValue := 0 }, { name := "DECIMAL", type := (.object "java/util/regex/Pattern"), accessFlags := 26, slot := 1, constantValue := 0 }, { name := "KEYS", type := (.object "java/util/List"), accessFlags := 26, slot := 2, constantValue := 0 }, { name := "QUOTIENT", type := (.object "java/math/MathContext"), accessFlags := 26, slot := 3, constantValue := 0 }]
  methods := #[k4m0]
  instanceTypes := #[(.object "java/math/BigDecimal"), (.object "java/math/BigDecimal"), (.object "java/math/BigDecimal"), (.object "java/math/BigDecimal"), (.object "java/math/BigDecimal")]
  staticTypes := #[(.object "java/math/BigDecimal"), (.object "java/util/regex/Pattern"), (.object "java/util/List"), (.object "java/math/MathContext")]
  resolved := Array.replicate 373 none
  statics := none }

def pool5 : Array CpInfo := pool [(1, u "java/lang/Cloneable"), (0, .class_ 1), (0, u "java/lang/Object"), (0, .class_ 3)] 3

/-- java/lang/Cloneable -/
def k5 : Class := { plain "java/lang/Cloneable" (some 0) with
  accessFlags := 1537
  interfaces := #[]
  cf := some (fileOf pool5 2 #[] #[] 1537 4 #[] #[])
  fields := #[]
  methods := #[]
  instanceTypes := #[]
  staticTypes := #[]
  resolved := Array.replicate 8 none
  statics := none }

def pool6 : Array CpInfo := pool [(1, u "java/io/Serializable"), (0, .class_ 1), (0, u "java/lang/Object"), (0, .class_ 3)] 3

/-- java/io/Serializable -/
def k6 : Class := { plain "java/io/Serializable" (some 0) with
  accessFlags := 1537
  interfaces := #[]
  cf := some (fileOf pool6 2 #[] #[] 1537 4 #[] #[])
  fields := #[]
  methods := #[]
  instanceTypes := #[]
  staticTypes := #[]
  resolved := Array.replicate 8 none
  statics := none }

/-- the primitive byte -/
def k7 : Class := { plain "byte" none with kind := .primitive 'B', accessFlags := 0x411 }
/-- [B -/
def k8 : Class := { plain "[B" (some 0) with kind := .array 7 .byte, interfaces := #[5, 6], accessFlags := 1041 }

/-- the primitive int -/
def k9 : Class := { plain "int" none with kind := .primitive 'I', accessFlags := 0x411 }
/-- [I -/
def k10 : Class := { plain "[I" (some 0) with kind := .array 9 .int, interfaces := #[5, 6], accessFlags := 1041 }

def heap : Heap := #[]
def classes : Array Class := #[k0, k1, k2, k3, k4, k5, k6, k7, k8, k9, k10]
def interned : List (Array UInt16 × Addr) := []
def slotsUsed : Nat := 0
def theMethod : MethodId := ⟨1, 1⟩
def args0 : Array Value := #[.long 5, .long 3]
def aboutOver (below : List Frame) : State where
  vm := { classes := classes, interned := interned.toArray }
  heap := heap
  slotsUsed := slotsUsed
  threads := #[{ frames := .invoking theMethod args0 :: below }]
def below0 : List Frame := [.native { method := ⟨0, 0⟩, args := #[] }]
def about1 : State := aboutOver below0
def p0 : Program := .bare "" "" ""
def e0 : Env := launch0.env 0 0 0
theorem w_frames : about1.frames = Frame.invoking theMethod args0 :: below0 := rfl
set_option maxRecDepth 65536 in
theorem w_args : argsFit about1.vm theMethod args0 = true := by decide +kernel
set_option maxRecDepth 65536 in
theorem w_heap : heapFits about1 = true := by decide +kernel
set_option maxRecDepth 65536 in
theorem w_runnable : about1.curStatus? = some .runnable := by decide +kernel
set_option maxRecDepth 65536 in
theorem w_alone : about1.alone = true := by decide +kernel
set_option maxRecDepth 65536 in
theorem w_named : about1.methodNamed? x = some theMethod := by decide +kernel
set_option maxRecDepth 65536 in
theorem w_hears : about1.hears theMethod below0 = true := by decide +kernel
set_option maxRecDepth 65536 in
theorem w_ripe : about1.ripe theMethod args0 below0 = true := by decide +kernel
theorem w_running : about1.status = .running := rfl
set_option maxRecDepth 65536 in
theorem w_room : about1.hasRoom e0.platform room_1 = true :=
  launch0.hasRoom_least _ room_1 (by decide +kernel) (by decide +kernel) (by decide +kernel) (by decide +kernel) (by decide +kernel) (by decide +kernel)
theorem allAtoms_all (ts : List Jvm.Cond) (a : Array Jvm.Value) (st : Jvm.State) : (allAtoms ts).before a st = ts.all (fun c => c.before a st) := by
  induction ts with
  | nil => rfl
  | cons c t ih =>
    show (Jvm.Cond.and c (allAtoms t)).before a st = _
    rw [Jvm.Cond.before_and, ih, List.all_cons]
def words1 : List Jvm.Cond := Jvm.Cond.code x code maxLocals ret :: tables_1
/-- a 'code' word, met by the world's own term for the bytes: nothing is compared byte by byte -/
theorem code_word {y : MethodName} {bytes : ByteArray} {mx : Nat} {rt : Option FieldType} {a : Array Value} {s : State} {m : MethodId} {meth : Method} {c : Code} (h1 : s.methodNamed? y = some m) (h2 : s.vm.method? m = some meth) (h3 : meth.code = some c) (h4 : c.code = bytes)
    (h5 : (c.maxLocals == mx && c.exceptionTable.isEmpty && decide (c.maxStack ≤ mostOperands) && decide (meth.sig.returnType = rt) && !meth.locks && decide (parseMethodDescriptor y.desc = some meth.sig)) = true) : (Jvm.Cond.code y bytes mx rt).before a s = true := by
  simp only [Bool.and_eq_true, beq_iff_eq, Bool.not_eq_true', decide_eq_true_eq] at h5
  obtain ⟨⟨⟨⟨⟨g1, g2⟩, g3⟩, g4⟩, g5⟩, g6⟩ := h5
  simp [Cond.before, Cond.holds, Cond.value, h1, h2, h3, h4, g1, g2, g3, g4, g5, g6]
def isCode : Jvm.Cond → Bool
  | .code _ _ _ _ => true
  | _ => false
theorem all_split {L : List Jvm.Cond} {P : Jvm.Cond → Bool} (h1 : L.all (fun c => isCode c || P c) = true) (h2 : ∀ c ∈ L.filter isCode, P c = true) : L.all P = true := by
  refine List.all_eq_true.mpr fun c hc => ?_
  have h := List.all_eq_true.mp h1 c hc
  rcases Bool.eq_false_or_eq_true (isCode c) with hi | hi
  · exact h2 c (List.mem_filter.mpr ⟨hc, hi⟩)
  · simpa [hi] using h
set_option maxRecDepth 65536 in
theorem w_c0 : (Jvm.Cond.code x code maxLocals ret).before args0 about1 = true := code_word (m := ⟨1, 1⟩) (meth := k1m1) (c := k1c1) (by decide +kernel) rfl rfl rfl (by decide +kernel)
set_option maxRecDepth 65536 in
theorem w_c1 : (Jvm.Cond.code ({ cls := "java/lang/Math", name := "max", desc := "(JJ)J" } : Jvm.MethodName) jdk_29_method_66_code (4 : Nat) (Option.some Jvm.ClassFile.FieldType.long)).before args0 about1 = true := code_word (m := ⟨2, 1⟩) (meth := k2m1) (c := k2c1) (by decide +kernel) rfl rfl rfl (by decide +kernel)
set_option maxRecDepth 65536 in
theorem w_c2 : (Jvm.Cond.code ({ cls := "com/example/crossweave/crossweave/CostProfile", name := "fragments", desc := "(JJ)J" } : Jvm.MethodName) prog_1_method_7_code (4 : Nat) (Option.some Jvm.ClassFile.FieldType.long)).before args0 about1 = true := code_word (m := ⟨4, 0⟩) (meth := k4m0) (c := k4c0) (by decide +kernel) rfl rfl rfl (by decide +kernel)
def codes1 : List Jvm.Cond := [Jvm.Cond.code x code maxLocals ret, Jvm.Cond.code ({ cls := "java/lang/Math", name := "max", desc := "(JJ)J" } : Jvm.MethodName) jdk_29_method_66_code (4 : Nat) (Option.some Jvm.ClassFile.FieldType.long), Jvm.Cond.code ({ cls := "com/example/crossweave/crossweave/CostProfile", name := "fragments", desc := "(JJ)J" } : Jvm.MethodName) prog_1_method_7_code (4 : Nat) (Option.some Jvm.ClassFile.FieldType.long)]
set_option maxRecDepth 65536 in
theorem codes_eq : words1.filter isCode = codes1 := rfl
theorem w_codes : ∀ c ∈ words1.filter isCode, c.before args0 about1 = true := by
  rw [codes_eq]
  intro c hc
  simp only [codes1, List.mem_cons, List.not_mem_nil, or_false] at hc
  rcases hc with rfl | rfl | rfl
  · exact w_c0
  · exact w_c1
  · exact w_c2
set_option maxRecDepth 65536 in
theorem w_t1 : words1.all (fun c => isCode c || c.before args0 about1) = true := by decide +kernel
theorem w_tables : (allAtoms (Jvm.Cond.code x code maxLocals ret :: tables_1)).before args0 about1 = true := by
  rw [allAtoms_all]
  show words1.all (fun c => c.before args0 about1) = true
  refine all_split ?_ w_codes
  rw [w_t1]
set_option maxRecDepth 65536 in
theorem w_case : (Jvm.Cond.and given_1 narrow_1).before args0 about1 = true := by decide +kernel
theorem w_applies : (headSpec (Jvm.Cond.code x code maxLocals ret :: tables_1) room_1).applies x e0.platform about1 = true :=
  (Spec.applies_iff w_frames).mpr ⟨w_running, w_runnable, w_alone, w_named, w_hears, w_ripe, w_room, w_tables⟩
theorem atStart : AtStart classFile x code maxLocals ret World_1 tables_1 room_1 Calls_1 rest_1 Pre_1 launch0 p0 e0 about1 theMethod args0 below0 :=
  ⟨lists_1, trivial, launch0.admits_env _ _ _, launch0.least_env, fairChoices_fair.cas, fairChoices_fair.clock, w_frames, w_args, w_heap, w_applies, trivial, trivial, w_case⟩
end start1
theorem witness_1 : WitnessClaimed_1 := ⟨start1.p0, start1.e0, start1.about1, start1.theMethod, start1.args0, start1.below0, start1.atStart⟩
end Jvm.Pilot.@@N@@
