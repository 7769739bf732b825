import JvmDerived
import JvmDerived.Pilot.@@N@@Statement
import JvmDerived.Pilot.@@N@@Code
set_option linter.unusedVariables false
set_option linter.unusedSimpArgs false
namespace Jvm.Pilot.@@N@@
open Jvm Jvm.ClassFile Sem Op Lib Jvm.Free Jvm.Stand Jvm.LawKit Jvm.RoadKit Bundle Jvm.Pilot.@@N@@.Jvm.D
section Own
variable {p : Program} {l : Launch} {e : Env} {R : Room} {s : State} {m : MethodId} {args : Array Value} {below : List Frame} {meth : Method} {c : Code} {T : State} {locs : List Loc} {cells slots : Nat} {Z : State} {a0 : Array Value} {h : Heap} {Φ : Outcome → State → Prop}
/-- what is left of a walk: from S the invocation ends as Φ says -/
def OGo (tb : Tables) (e : Env) (below : List Frame) (Φ : Outcome → State → Prop) (S : State) : Prop := ∃ s₂ o, Steps tb e below S s₂ ∧ s₂.status = .running ∧ Ended s₂ below o ∧ Φ o s₂
theorem OGo.st {tb : Tables} {S S' : State} (h : ∀ t, Steps tb e below S' t → Steps tb e below S t) (g : OGo tb e below Φ S') : OGo tb e below Φ S := by
  obtain ⟨s₂, o, h1, r⟩ := g
  exact ⟨s₂, o, h _ h1, r⟩
theorem OGo.fin (X : Stand p l e R s m args below meth c T locs cells slots) (hlk : meth.locks = false) {v : Option Value} (hv : meth.sig.returnType = none → v = none) {g : JFrame} {k n : Nat} (hk : cells ≤ k) (hn : slots ≤ n)
    (st : ∀ fs, (∀ (f : JFrame) (acts : List Action), f.method = m → f.locked = none → f.entered = [] → (doReturn e (T.setTop f) acts v).1 = T.setFrames fs) → Steps p.tables e below (T.setTop g) (T.setFrames fs))
    (hq : ∀ U, U.heap = T.heap → FrameEnd s (.returned v) U locs k n → Φ (.returned v) U) : OGo p.tables e below Φ (T.setTop g) := by
  obtain ⟨fs, hr, hrun, hended, hW, hsame⟩ := X.leave (v := v) hv hlk
  exact ⟨_, _, st fs hr, hrun, hended, hq _ rfl ⟨⟨_, rfl⟩, hW, hsame.mono hk hn⟩⟩
/-- a contract: what every body's theorem says -/
abbrev OCon (l : Launch) (Z : State) (y : MethodName) (bytes : ByteArray) (maxL : Nat) (ret : Option FieldType) (ws : List Jvm.Cond) (rm : Room) (as' : Array Value) (h0 : Heap) (Q : Option Value → Heap → List Loc → Prop) : Prop :=
  MetFree l y (head1 (Jvm.Cond.code y bytes maxL ret :: ws) rm) (fun a U => a = as' ∧ Z.Warmed39 U.vm ∧ U.heap = h0) (fun _ _ _ _ _ => True) (fun _ U o U' => ∃ v L, o = .returned v ∧ Q v U'.heap L ∧ FrameEnd U o U' L rm.cells rm.slots)
theorem OCon.of {y : MethodName} {bytes : ByteArray} {maxL : Nat} {ret : Option FieldType} {ws : List Jvm.Cond} {rm : Room} {as' : Array Value} {h0 : Heap} {Q : Option Value → Heap → List Loc → Prop} (hpl : plainFor y = true)
    (H : ∀ (p : Program) (e : Env) (s : State) (m : MethodId) (below : List Frame) (meth : Method) (c : Code) (s₁ : State) (Φ : Outcome → State → Prop), Stand p l e rm s m as' below meth c s₁ [] 0 0 → p.tables.exec = Jvm.exec → c.code = bytes → c.maxLocals = maxL → s.vm.findClass y.cls = some m.cls → meth.name = y.name → meth.sig.returnType = ret → meth.locks = false → Z.Warmed39 s.vm → s₁.heap = h0 →
      (∀ v L U, Q v U.heap L → FrameEnd s (.returned v) U L rm.cells rm.slots → Φ (.returned v) U) → OGo p.tables e below Φ (s₁.setTop (entryFrame m as' maxL))) :
    OCon l Z y bytes maxL ret ws rm as' h0 Q := by
  refine MetFree.of_bodySF hpl hisR ?_
  intro p e s m args below meth c s₁ Bd hml0 hP hK
  obtain ⟨rfl, hZ, hh⟩ := hP
  have e0 : s₁.heap = h0 := by rw [← hh, Bd.state]; rfl
  exact H p e s m below meth c s₁ _ (Stand.of_body Bd) Bd.exec Bd.bytes hml0 (findClass_of_methodNamed Bd.named) (name_of_methodNamed Bd.named Bd.method).1 Bd.returns Bd.notSynchronized hZ e0 (fun v L U hq hf => ⟨v, L, rfl, hq, hf⟩)
theorem own_callSt (X : Stand p l e R s m args below meth c T locs cells slots) (hx : p.tables.exec = Jvm.exec) (hZ : Z.Warmed39 s.vm) {own : String} {index : Nat} {y : MethodName} {bytes : ByteArray} {maxL : Nat} {ret : Option FieldType} {rm : Room} {as' : Array Value} {Q : Option Value → Heap → List Loc → Prop}
    (hown : s.vm.findClass own = some m.cls) (w1 : (Jvm.Cond.methodLink own index y).before a0 Z = true) (w2 : (Jvm.Cond.static y).before a0 Z = true) (w3 : (Jvm.Cond.initialized y.cls).before a0 Z = true) (w4 : (Jvm.Cond.code y bytes maxL ret).before a0 Z = true) (hy : y.cls ≠ "java/lang/invoke/MethodHandle" ∧ y.cls ≠ "java/lang/invoke/VarHandle")
    (hM : OCon l Z y bytes maxL ret [] rm as' h Q) (eT : T.heap = h) {W : Nat} (hf : rm.frames + 1 ≤ R.frames) (hl : W + (maxL + 11) + rm.locals ≤ R.locals) (hcl : cells + rm.cells ≤ R.cells) (hsl : slots + rm.slots ≤ R.slots)
    {pc : Nat} {ls : Array Slot} {stk : List Value} (hsize : ls.size = c.maxLocals) {argsL rest : List Value} (hlen : ∀ sig, parseMethodDescriptor y.desc = some sig → argsL.length = sig.parameters.length) (has : argsL.toArray = as') (hstack : stk = argsL.reverse ++ rest) (hW : (rest.map fun v => v.category).sum ≤ W)
    (hd : decode c.code pc = .ok (.invokestatic index, 3)) :
    ∃ v T' L, Stand p l e R s m args below meth c T' (locs ++ L) (cells + rm.cells) (slots + rm.slots) ∧ Q v T'.heap L ∧ ∀ target, Steps p.tables e below (T'.setTop (mkF m (pc + 3) ls (v.toList ++ rest))) target → Steps p.tables e below (T.setTop (mkF m pc ls stk)) target := by
  subst has
  obtain ⟨v, vm₁, ⟨T', L', k', n'⟩, -, X', ⟨L, hQ, l1, y1, z1⟩, st⟩ := Jvm.LawKit.callS X hx (y := y) hown (mvT hZ w1) (mvT hZ w2) (mvT hZ w3) (mvT hZ w4) hy (backOf (W := W) hM hZ w4 w3 hf hl) (g := mkF m pc ls stk) rfl hsize (argsL := argsL) (rest := rest) hlen hstack (by simpa using hW) hd (fun _ _ => ⟨rfl, eT, hcl, hsl⟩)
  dsimp only [Pt.U, Pt.locs, Pt.cells, Pt.slots] at X' l1 y1 z1 st hQ
  subst l1 y1 z1
  exact ⟨v, T', L, X', hQ, st⟩
theorem own_callSp (X : Stand p l e R s m args below meth c T locs cells slots) (hx : p.tables.exec = Jvm.exec) (hZ : Z.Warmed39 s.vm) {own : String} {index : Nat} {y : MethodName} {bytes : ByteArray} {maxL : Nat} {rm : Room} {as' : Array Value} {Q : Option Value → Heap → List Loc → Prop}
    (hy1 : y.name = "<init>") (hown : s.vm.findClass own = some m.cls) (w1 : (Jvm.Cond.methodLink own index y).before a0 Z = true) (w2 : (Jvm.Cond.instanceMethod y).before a0 Z = true) (w3 : (Jvm.Cond.initialized y.cls).before a0 Z = true) (w4 : (Jvm.Cond.code y bytes maxL none).before a0 Z = true) (hy : y.cls ≠ "java/lang/invoke/MethodHandle" ∧ y.cls ≠ "java/lang/invoke/VarHandle")
    (hM : OCon l Z y bytes maxL none [] rm as' h Q) (eT : T.heap = h) {W : Nat} (hf : rm.frames + 1 ≤ R.frames) (hl : W + (maxL + 11) + rm.locals ≤ R.locals) (hcl : cells + rm.cells ≤ R.cells) (hsl : slots + rm.slots ≤ R.slots)
    {pc : Nat} {ls : Array Slot} {stk : List Value} (hsize : ls.size = c.maxLocals) {a : Addr} {argsL rest : List Value} (hlen : ∀ sig, parseMethodDescriptor y.desc = some sig → argsL.length = sig.parameters.length) (has : (.ref a :: argsL).toArray = as') (hstack : stk = argsL.reverse ++ .ref a :: rest) (hW : (rest.map fun v => v.category).sum ≤ W)
    (hd : decode c.code pc = .ok (.invokespecial index, 3)) :
    ∃ v T' L, Stand p l e R s m args below meth c T' (locs ++ L) (cells + rm.cells) (slots + rm.slots) ∧ Q v T'.heap L ∧ ∀ target, Steps p.tables e below (T'.setTop (mkF m (pc + 3) ls (v.toList ++ rest))) target → Steps p.tables e below (T.setTop (mkF m pc ls stk)) target := by
  subst has
  obtain ⟨v, vm₁, ⟨T', L', k', n'⟩, -, X', ⟨L, hQ, l1, y1, z1⟩, st⟩ := X.specialBack hx (y := y) hy1 hown (mvT hZ w1) (mvT hZ w2) (mvT hZ w4) hy (backOf (W := W) hM hZ w4 w3 hf hl) (g := mkF m pc ls stk) rfl hsize (Steps.refl _) (a := a) (argsL := argsL) (rest := rest) hlen hstack (by simpa using hW) hd (fun _ _ => ⟨rfl, eT, hcl, hsl⟩)
  dsimp only [Pt.U, Pt.locs, Pt.cells, Pt.slots] at X' l1 y1 z1 st hQ
  subst l1 y1 z1
  exact ⟨v, T', L, X', hQ, fun t k => st.trans k⟩
theorem own_callVi (X : Stand p l e R s m args below meth c T locs cells slots) (hx : p.tables.exec = Jvm.exec) (hZ : Z.Warmed39 s.vm) {own C : String} {index : Nat} {y z : MethodName} {bytes : ByteArray} {maxL : Nat} {ret : Option FieldType} {rm : Room} {as' : Array Value} {Q : Option Value → Heap → List Loc → Prop}
    (hown : s.vm.findClass own = some m.cls) (w1 : (Jvm.Cond.methodLink own index y).before a0 Z = true) (w2 : (Jvm.Cond.declares y).before a0 Z = true) (nf : NotFace s y) (w3 : (Jvm.Cond.selects C y z).before a0 Z = true) (w4 : (Jvm.Cond.instanceMethod z).before a0 Z = true) (w5 : (Jvm.Cond.initialized z.cls).before a0 Z = true) (w6 : (Jvm.Cond.code z bytes maxL ret).before a0 Z = true) (hy : y.cls ≠ "java/lang/invoke/MethodHandle" ∧ y.cls ≠ "java/lang/invoke/VarHandle")
    (hM : OCon l Z z bytes maxL ret [] rm as' h Q) (eT : T.heap = h) {W : Nat} (hf : rm.frames + 1 ≤ R.frames) (hl : W + (maxL + 11) + rm.locals ≤ R.locals) (hcl : cells + rm.cells ≤ R.cells) (hsl : slots + rm.slots ≤ R.slots) {a : Addr} (E : Exa Z h a C)
    {pc : Nat} {ls : Array Slot} {stk : List Value} (hsize : ls.size = c.maxLocals) {argsL rest : List Value} (hlen : ∀ sig, parseMethodDescriptor y.desc = some sig → argsL.length = sig.parameters.length) (has : (.ref a :: argsL).toArray = as') (hstack : stk = argsL.reverse ++ .ref a :: rest) (hW : (rest.map fun v => v.category).sum ≤ W)
    (hd : decode c.code pc = .ok (.invokevirtual index, 3)) :
    ∃ v T' L, Stand p l e R s m args below meth c T' (locs ++ L) (cells + rm.cells) (slots + rm.slots) ∧ Q v T'.heap L ∧ ∀ target, Steps p.tables e below (T'.setTop (mkF m (pc + 3) ls (v.toList ++ rest))) target → Steps p.tables e below (T.setTop (mkF m pc ls stk)) target := by
  subst has
  obtain ⟨cq, kq, qa, qb, qc⟩ := isOf hZ eT E
  obtain ⟨v, vm₁, ⟨T', L', k', n'⟩, -, X', ⟨L, hQ, l1, y1, z1⟩, st⟩ := X.virtualBack hx (y := y) (z := z) hown (mvT hZ w1) (mvT hZ w2) nf (mvT hZ w3) (mvT hZ w4) hy (backOf (W := W) hM hZ w6 w5 hf hl) qa qc (g := mkF m pc ls stk) rfl hsize (Steps.refl _) (argsL := argsL) (rest := rest) hlen hstack (by simpa using hW) hd (fun _ _ => ⟨rfl, eT, hcl, hsl⟩)
  dsimp only [Pt.U, Pt.locs, Pt.cells, Pt.slots] at X' l1 y1 z1 st hQ
  subst l1 y1 z1
  exact ⟨v, T', L, X', hQ, fun t k => st.trans k⟩
theorem own_lremM {g : JFrame} {target : State} (X : Stand p l e R s m args below meth c T locs cells slots) (hx : p.tables.exec = Jvm.exec) (hg : g.method = m) {x y : Int64} {rest : List Value} (hd : decode c.code g.pc = .ok (.lrem, 1)) (hs : g.stack = .long y :: .long x :: rest) (hy : y ≠ 0)
    (hr : Steps p.tables e below (T.setTop { g with pc := g.pc + 1, stack := .long (x % y) :: rest }) target) : Steps p.tables e below (T.setTop g) target :=
  XT.lrem X.here hx hg hd hs hy (by rw [lrem_mod]; exact hr)
theorem own_nz {x : Int32} (q : x = 0 ∨ x = 1) : narrow .boolean (.int x) = .int x := by rcases q with rfl | rfl <;> rfl
theorem own_fz {x : Int32} (q : x = 0 ∨ x = 1) : fits .boolean (.int x) = true := by rcases q with rfl | rfl <;> rfl
theorem own_irr (x : Int32) : ¬ x < x := fun q => absurd (Int32.lt_iff_toInt_lt.mp q) (Int.lt_irrefl _)
theorem own_irrL (x : Int64) : ¬ x < x := fun q => absurd (Int64.lt_iff_toInt_lt.mp q) (Int.lt_irrefl _)
/-- a small int is one of the first n -/
theorem own_small {n : Nat} (hn : n < 2 ^ 31) (x : Int32) (h0 : ¬ x < 0) (h1 : x.toInt < n) : ∃ k : Fin n, x = Int32.ofInt k.val := by
  have h2 : 0 ≤ x.toInt := by
    rcases Int.lt_or_le x.toInt 0 with q | q
    · exact absurd (Int32.lt_iff_toInt_lt.mpr q) h0
    · exact q
  refine ⟨⟨x.toInt.toNat, by omega⟩, ?_⟩
  rw [Int.toNat_of_nonneg h2, Int32.ofInt_toInt]
end Own
section OwnSta
variable {args : Array Value} {Z : State} {a : Addr} {t : Jvm.Term}
theorem own_eqV {u : Jvm.Term} {v : Value} (hu : u.eval args Z none [] Z = some v) (hv : (match v with | .retAddr _ => false | _ => true) = true) (q : (Jvm.Cond.eq t u).value args Z none Z [] = some true) : t.eval args Z none [] Z = some v := by
  obtain ⟨x, y, ex, ey, k1, k2⟩ := cmp_v (Or.inl q)
  cases hu.symm.trans ey
  rw [ex]
  cases x <;> cases v <;> simp_all [Jvm.Cond.value, Kin, Value.isRef]
theorem own_fldI {C n d : String} {k : Int32} (ev : t.eval args Z none [] Z = some (.ref a)) (q : (Jvm.Cond.eq (Jvm.Term.field t C n d) (Jvm.Term.int k)).value args Z none Z [] = some true) : Fld Z Z.heap a C n d (.int k) :=
  Fld.start ((fld_at ev).symm.trans (own_eqV (Term.int_eval k) rfl q))
theorem own_lenI {k : Int32} {cl : Cell} {ty : FieldType} (ev : t.eval args Z none [] Z = some (.ref a)) (A : Arr Z Z.heap a cl ty) (q : (Jvm.Cond.eq (Jvm.Term.length t) (Jvm.Term.int k)).value args Z none Z [] = some true) : cl.slots.size < 2 ^ 31 ∧ cl.slots.size.toInt32 = k := by
  have h := own_eqV (Term.int_eval k) rfl q
  obtain ⟨b, cell, ht, harr, hl⟩ := Term.length_spec h
  cases ev.symm.trans ht
  have ha : Z.arrayAt? a = some cl := Arr.fin (Vm.Alike.refl _) A
  cases ha.symm.trans harr
  by_cases hs : cl.slots.size < 2 ^ 31
  · exact ⟨hs, (Value.int.inj (Option.some.inj ((len_f ev ha hs).symm.trans h)))⟩
  · exfalso
    rw [Jvm.Term.eval, ev] at h
    simp [ha] at h
    omega
theorem own_elem {j : Int32} {n : Nat} {u : Jvm.Term} {v : Value} {cl : Cell} {ty : FieldType} (ev : t.eval args Z none [] Z = some (.ref a)) (A : Arr Z Z.heap a cl ty) (hu : u.eval args Z none [] Z = some v) (hv : (match v with | .retAddr _ => false | _ => true) = true) (hj : j.toNatClampNeg = n) (q : (Jvm.Cond.eq (Jvm.Term.elem t (Jvm.Term.int j)) u).value args Z none Z [] = some true) : cl.slots[n]? = some v :=
  hj ▸ (elem_in (own_eqV hu hv q) ev (Term.int_eval j) A.1).2
end OwnSta
section OwnNs
variable {Z : State} {a0 : Array Value}
/-- the root class is no subclass of an instantiable K -/
theorem own_nsRoot {O K : String} {n : Nat} (w : (Jvm.Cond.noSuperclass O).before a0 Z = true) (wk : (Jvm.Cond.instantiable K n).before a0 Z = true) (hn : O ≠ K) : NS Z O K := by
  obtain ⟨c, k, q1, q2, q3, -⟩ := Cond.noSuperclass_spec w
  obtain ⟨t, kt, u1, -⟩ := Cond.instantiable_spec wk
  refine ⟨c, t, q1, u1, fun fuel => ?_⟩
  have hne : c ≠ t := ids_ne q1 u1 hn
  cases fuel <;> simp [Vm.isSubclassAux, hne, q2, q3]
theorem own_nsNo {C S K : String} {n : Nat} (w : (Jvm.Cond.superclass C S).before a0 Z = true) (wk : (Jvm.Cond.instantiable K n).before a0 Z = true) (hN : NS Z C K) (hn : C ≠ K) : ∃ c t, Z.vm.findClass C = some c ∧ Z.vm.findClass K = some t ∧ Z.vm.assignable c t = false := by
  obtain ⟨c, t, q1, q2, q3⟩ := hN
  obtain ⟨p, k, kp, -, u2, -, -, u5, -, -⟩ := Cond.superclass_spec q1 w
  obtain ⟨t', kt, v1, v2, v3, v4, -⟩ := Cond.instantiable_spec wk
  cases q2.symm.trans v1
  have hne : c ≠ t := ids_ne q1 q2 hn
  have hi : kt.isInterface = false := by simp only [Bool.or_eq_false_iff] at v4; exact v4.1
  refine ⟨c, t, q1, q2, ?_⟩
  show Z.vm.assignableAux (255 + 1) c t = false
  simp [Vm.assignableAux, hne, u2, v2, u5, v3, hi, Vm.isSubclass, q3]
end OwnNs
section OwnBox
theorem own_bxin {i : Int32} {n : Nat} (h1 : ¬ i < -128) (h2 : ¬ 127 < i) (S : n = (256 : Int32).toNatClampNeg) : ¬ ((i + 128) < 0 ∨ n ≤ (i + 128).toNatClampNeg) := by
  have a1 : (-128 : Int32).toInt = -128 := by decide
  have a2 : (127 : Int32).toInt = 127 := by decide
  have a3 : (128 : Int32).toInt = 128 := by decide
  have a0 : (0 : Int32).toInt = 0 := by decide
  have e : (i + 128).toInt = i.toInt + 128 := by
    rw [XT.add32, a3]
    have := rng32 i
    rw [Int32.lt_iff_toInt_lt, a2] at h2
    simp only [XT.fits32, a3]; omega
  rw [Int32.lt_iff_toInt_lt, a1] at h1
  rw [Int32.lt_iff_toInt_lt, a2] at h2
  have hS : (256 : Int32).toNatClampNeg = 256 := by decide
  rw [Int32.lt_iff_toInt_lt, a0, S, hS]
  simp only [Int32.toNatClampNeg, e]
  omega
theorem own_subI {args : Array Value} {Z : State} {idx : List Nat} {t : Jvm.Term} {y : Int32} (h : t.eval args Z none idx Z = some (.int y)) : (Jvm.Term.sub t (Jvm.Term.int (128 : Int32))).eval args Z none idx Z = some (.int (y - 128)) := by simp [Jvm.Term.eval, h]
end OwnBox
theorem ow0 {Z : State} {a0 : Array Value} (hw : ∀ d ∈ tables_1, d.before a0 Z = true) : (Jvm.Cond.classLink "com/example/tersewire/tersewire/ArrayTypeEqualsPinLaw" (7 : Nat) "com/example/tersewire/tersewire/ArrayType").before a0 Z = true := hw _ (List.mem_of_getElem? (i := 0) rfl)
theorem ow1 {Z : State} {a0 : Array Value} (hw : ∀ d ∈ tables_1, d.before a0 Z = true) : (Jvm.Cond.instantiable "com/example/tersewire/tersewire/ArrayType" (1 : Nat)).before a0 Z = true := hw _ (List.mem_of_getElem? (i := 1) rfl)
theorem ow2 {Z : State} {a0 : Array Value} (hw : ∀ d ∈ tables_1, d.before a0 Z = true) : (Jvm.Cond.initialized "com/example/tersewire/tersewire/ArrayType").before a0 Z = true := hw _ (List.mem_of_getElem? (i := 2) rfl)
theorem ow3 {Z : State} {a0 : Array Value} (hw : ∀ d ∈ tables_1, d.before a0 Z = true) : (Jvm.Cond.methodLink "com/example/tersewire/tersewire/ArrayTypeEqualsPinLaw" (9 : Nat) ({ cls := "com/example/tersewire/tersewire/ArrayType", name := "<init>", desc := "(I)V" } : Jvm.MethodName)).before a0 Z = true := hw _ (List.mem_of_getElem? (i := 3) rfl)
theorem ow4 {Z : State} {a0 : Array Value} (hw : ∀ d ∈ tables_1, d.before a0 Z = true) : (Jvm.Cond.instanceMethod ({ cls := "com/example/tersewire/tersewire/ArrayType", name := "<init>", desc := "(I)V" } : Jvm.MethodName)).before a0 Z = true := hw _ (List.mem_of_getElem? (i := 4) rfl)
theorem ow5 {Z : State} {a0 : Array Value} (hw : ∀ d ∈ tables_1, d.before a0 Z = true) : (Jvm.Cond.code ({ cls := "com/example/tersewire/tersewire/ArrayType", name := "<init>", desc := "(I)V" } : Jvm.MethodName) prog_1_method_1_code (2 : Nat) (Option.none : Option Jvm.ClassFile.FieldType)).before a0 Z = true := hw _ (List.mem_of_getElem? (i := 5) rfl)
theorem ow6 {Z : State} {a0 : Array Value} (hw : ∀ d ∈ tables_1, d.before a0 Z = true) : (Jvm.Cond.methodLink "com/example/tersewire/tersewire/ArrayType" (1 : Nat) ({ cls := "java/lang/Record", name := "<init>", desc := "()V" } : Jvm.MethodName)).before a0 Z = true := hw _ (List.mem_of_getElem? (i := 6) rfl)
theorem ow7 {Z : State} {a0 : Array Value} (hw : ∀ d ∈ tables_1, d.before a0 Z = true) : (Jvm.Cond.instanceMethod ({ cls := "java/lang/Record", name := "<init>", desc := "()V" } : Jvm.MethodName)).before a0 Z = true := hw _ (List.mem_of_getElem? (i := 7) rfl)
theorem ow9 {Z : State} {a0 : Array Value} (hw : ∀ d ∈ tables_1, d.before a0 Z = true) : (Jvm.Cond.initialized "java/lang/Record").before a0 Z = true := hw _ (List.mem_of_getElem? (i := 9) rfl)
theorem ow10 {Z : State} {a0 : Array Value} (hw : ∀ d ∈ tables_1, d.before a0 Z = true) : (Jvm.Cond.code ({ cls := "java/lang/Record", name := "<init>", desc := "()V" } : Jvm.MethodName) jdk_30_method_1_code (1 : Nat) (Option.none : Option Jvm.ClassFile.FieldType)).before a0 Z = true := hw _ (List.mem_of_getElem? (i := 10) rfl)
theorem ow11 {Z : State} {a0 : Array Value} (hw : ∀ d ∈ tables_1, d.before a0 Z = true) : (Jvm.Cond.methodLink "java/lang/Record" (1 : Nat) ({ cls := "java/lang/Object", name := "<init>", desc := "()V" } : Jvm.MethodName)).before a0 Z = true := hw _ (List.mem_of_getElem? (i := 11) rfl)
theorem ow12 {Z : State} {a0 : Array Value} (hw : ∀ d ∈ tables_1, d.before a0 Z = true) : (Jvm.Cond.instanceMethod ({ cls := "java/lang/Object", name := "<init>", desc := "()V" } : Jvm.MethodName)).before a0 Z = true := hw _ (List.mem_of_getElem? (i := 12) rfl)
theorem ow13 {Z : State} {a0 : Array Value} (hw : ∀ d ∈ tables_1, d.before a0 Z = true) : (Jvm.Cond.code ({ cls := "java/lang/Object", name := "<init>", desc := "()V" } : Jvm.MethodName) object_method_1_code (1 : Nat) (Option.none : Option Jvm.ClassFile.FieldType)).before a0 Z = true := hw _ (List.mem_of_getElem? (i := 13) rfl)
theorem ow14 {Z : State} {a0 : Array Value} (hw : ∀ d ∈ tables_1, d.before a0 Z = true) : (Jvm.Cond.fieldLink "com/example/tersewire/tersewire/ArrayType" (7 : Nat) "com/example/tersewire/tersewire/ArrayType" "elementType" "I").before a0 Z = true := hw _ (List.mem_of_getElem? (i := 14) rfl)
theorem ow15 {Z : State} {a0 : Array Value} (hw : ∀ d ∈ tables_1, d.before a0 Z = true) : (Jvm.Cond.laysFinal "com/example/tersewire/tersewire/ArrayType" "com/example/tersewire/tersewire/ArrayType" "elementType" "I").before a0 Z = true := hw _ (List.mem_of_getElem? (i := 15) rfl)
theorem ow16 {Z : State} {a0 : Array Value} (hw : ∀ d ∈ tables_1, d.before a0 Z = true) : (Jvm.Cond.constant "com/example/tersewire/tersewire/ArrayTypeEqualsPinLaw" (12 : Nat) (2147483647 : Int32)).before a0 Z = true := hw _ (List.mem_of_getElem? (i := 16) rfl)
theorem ow17 {Z : State} {a0 : Array Value} (hw : ∀ d ∈ tables_1, d.before a0 Z = true) : (Jvm.Cond.methodLink "com/example/tersewire/tersewire/ArrayTypeEqualsPinLaw" (13 : Nat) ({ cls := "com/example/tersewire/tersewire/ArrayType", name := "equals", desc := "(Ljava/lang/Object;)Z" } : Jvm.MethodName)).before a0 Z = true := hw _ (List.mem_of_getElem? (i := 17) rfl)
theorem ow18 {Z : State} {a0 : Array Value} (hw : ∀ d ∈ tables_1, d.before a0 Z = true) : (Jvm.Cond.declares ({ cls := "com/example/tersewire/tersewire/ArrayType", name := "equals", desc := "(Ljava/lang/Object;)Z" } : Jvm.MethodName)).before a0 Z = true := hw _ (List.mem_of_getElem? (i := 18) rfl)
theorem ow19 {Z : State} {a0 : Array Value} (hw : ∀ d ∈ tables_1, d.before a0 Z = true) : (Jvm.Cond.instanceMethod ({ cls := "com/example/tersewire/tersewire/ArrayType", name := "equals", desc := "(Ljava/lang/Object;)Z" } : Jvm.MethodName)).before a0 Z = true := hw _ (List.mem_of_getElem? (i := 19) rfl)
theorem ow20 {Z : State} {a0 : Array Value} (hw : ∀ d ∈ tables_1, d.before a0 Z = true) : (Jvm.Cond.selects "com/example/tersewire/tersewire/ArrayType" ({ cls := "com/example/tersewire/tersewire/ArrayType", name := "equals", desc := "(Ljava/lang/Object;)Z" } : Jvm.MethodName) ({ cls := "com/example/tersewire/tersewire/ArrayType", name := "equals", desc := "(Ljava/lang/Object;)Z" } : Jvm.MethodName)).before a0 Z = true := hw _ (List.mem_of_getElem? (i := 20) rfl)
theorem ow21 {Z : State} {a0 : Array Value} (hw : ∀ d ∈ tables_1, d.before a0 Z = true) : (Jvm.Cond.code ({ cls := "com/example/tersewire/tersewire/ArrayType", name := "equals", desc := "(Ljava/lang/Object;)Z" } : Jvm.MethodName) prog_1_method_2_code (3 : Nat) (Option.some Jvm.ClassFile.FieldType.boolean)).before a0 Z = true := hw _ (List.mem_of_getElem? (i := 21) rfl)
theorem ow22 {Z : State} {a0 : Array Value} (hw : ∀ d ∈ tables_1, d.before a0 Z = true) : (Jvm.Cond.arrayClass Jvm.ClassFile.FieldType.int).before a0 Z = true := hw _ (List.mem_of_getElem? (i := 22) rfl)
theorem ow23 {Z : State} {a0 : Array Value} (hw : ∀ d ∈ tables_1, d.before a0 Z = true) : (Jvm.Cond.classLink "com/example/tersewire/tersewire/ArrayTypeEqualsPinLaw" (17 : Nat) "com/example/tersewire/tersewire/UnionType").before a0 Z = true := hw _ (List.mem_of_getElem? (i := 23) rfl)
theorem ow24 {Z : State} {a0 : Array Value} (hw : ∀ d ∈ tables_1, d.before a0 Z = true) : (Jvm.Cond.instantiable "com/example/tersewire/tersewire/UnionType" (1 : Nat)).before a0 Z = true := hw _ (List.mem_of_getElem? (i := 24) rfl)
theorem ow25 {Z : State} {a0 : Array Value} (hw : ∀ d ∈ tables_1, d.before a0 Z = true) : (Jvm.Cond.initialized "com/example/tersewire/tersewire/UnionType").before a0 Z = true := hw _ (List.mem_of_getElem? (i := 25) rfl)
theorem ow26 {Z : State} {a0 : Array Value} (hw : ∀ d ∈ tables_1, d.before a0 Z = true) : (Jvm.Cond.methodLink "com/example/tersewire/tersewire/ArrayTypeEqualsPinLaw" (19 : Nat) ({ cls := "com/example/tersewire/tersewire/UnionType", name := "<init>", desc := "([I)V" } : Jvm.MethodName)).before a0 Z = true := hw _ (List.mem_of_getElem? (i := 26) rfl)
theorem ow27 {Z : State} {a0 : Array Value} (hw : ∀ d ∈ tables_1, d.before a0 Z = true) : (Jvm.Cond.instanceMethod ({ cls := "com/example/tersewire/tersewire/UnionType", name := "<init>", desc := "([I)V" } : Jvm.MethodName)).before a0 Z = true := hw _ (List.mem_of_getElem? (i := 27) rfl)
theorem ow28 {Z : State} {a0 : Array Value} (hw : ∀ d ∈ tables_1, d.before a0 Z = true) : (Jvm.Cond.code ({ cls := "com/example/tersewire/tersewire/UnionType", name := "<init>", desc := "([I)V" } : Jvm.MethodName) prog_28_method_1_code (2 : Nat) (Option.none : Option Jvm.ClassFile.FieldType)).before a0 Z = true := hw _ (List.mem_of_getElem? (i := 28) rfl)
theorem ow29 {Z : State} {a0 : Array Value} (hw : ∀ d ∈ tables_1, d.before a0 Z = true) : (Jvm.Cond.methodLink "com/example/tersewire/tersewire/UnionType" (1 : Nat) ({ cls := "java/lang/Record", name := "<init>", desc := "()V" } : Jvm.MethodName)).before a0 Z = true := hw _ (List.mem_of_getElem? (i := 29) rfl)
theorem ow30 {Z : State} {a0 : Array Value} (hw : ∀ d ∈ tables_1, d.before a0 Z = true) : (Jvm.Cond.fieldLink "com/example/tersewire/tersewire/UnionType" (7 : Nat) "com/example/tersewire/tersewire/UnionType" "members" "[I").before a0 Z = true := hw _ (List.mem_of_getElem? (i := 30) rfl)
theorem ow31 {Z : State} {a0 : Array Value} (hw : ∀ d ∈ tables_1, d.before a0 Z = true) : (Jvm.Cond.laysFinal "com/example/tersewire/tersewire/UnionType" "com/example/tersewire/tersewire/UnionType" "members" "[I").before a0 Z = true := hw _ (List.mem_of_getElem? (i := 31) rfl)
theorem ow32 {Z : State} {a0 : Array Value} (hw : ∀ d ∈ tables_1, d.before a0 Z = true) : (Jvm.Cond.classLink "com/example/tersewire/tersewire/ArrayType" (8 : Nat) "com/example/tersewire/tersewire/ArrayType").before a0 Z = true := hw _ (List.mem_of_getElem? (i := 32) rfl)
theorem ow33 {Z : State} {a0 : Array Value} (hw : ∀ d ∈ tables_1, d.before a0 Z = true) : (Jvm.Cond.superclass "com/example/tersewire/tersewire/UnionType" "java/lang/Record").before a0 Z = true := hw _ (List.mem_of_getElem? (i := 33) rfl)
theorem ow34 {Z : State} {a0 : Array Value} (hw : ∀ d ∈ tables_1, d.before a0 Z = true) : (Jvm.Cond.superclass "java/lang/Record" "java/lang/Object").before a0 Z = true := hw _ (List.mem_of_getElem? (i := 34) rfl)
theorem ow35 {Z : State} {a0 : Array Value} (hw : ∀ d ∈ tables_1, d.before a0 Z = true) : (Jvm.Cond.noSuperclass "java/lang/Object").before a0 Z = true := hw _ (List.mem_of_getElem? (i := 35) rfl)
theorem ow36 {Z : State} {a0 : Array Value} (hw : ∀ d ∈ tables_1, d.before a0 Z = true) : (Jvm.Cond.methodLink "com/example/tersewire/tersewire/ArrayTypeEqualsPinLaw" (22 : Nat) ({ cls := "java/lang/Integer", name := "valueOf", desc := "(I)Ljava/lang/Integer;" } : Jvm.MethodName)).before a0 Z = true := hw _ (List.mem_of_getElem? (i := 36) rfl)
theorem ow37 {Z : State} {a0 : Array Value} (hw : ∀ d ∈ tables_1, d.before a0 Z = true) : (Jvm.Cond.static ({ cls := "java/lang/Integer", name := "valueOf", desc := "(I)Ljava/lang/Integer;" } : Jvm.MethodName)).before a0 Z = true := hw _ (List.mem_of_getElem? (i := 37) rfl)
theorem ow38 {Z : State} {a0 : Array Value} (hw : ∀ d ∈ tables_1, d.before a0 Z = true) : (Jvm.Cond.initialized "java/lang/Integer").before a0 Z = true := hw _ (List.mem_of_getElem? (i := 38) rfl)
theorem ow39 {Z : State} {a0 : Array Value} (hw : ∀ d ∈ tables_1, d.before a0 Z = true) : (Jvm.Cond.code ({ cls := "java/lang/Integer", name := "valueOf", desc := "(I)Ljava/lang/Integer;" } : Jvm.MethodName) jdk_33_method_22_code (1 : Nat) (Option.some (Jvm.ClassFile.FieldType.object "java/lang/Integer"))).before a0 Z = true := hw _ (List.mem_of_getElem? (i := 39) rfl)
theorem ow40 {Z : State} {a0 : Array Value} (hw : ∀ d ∈ tables_1, d.before a0 Z = true) : (Jvm.Cond.fieldLink "java/lang/Integer" (191 : Nat) "java/lang/Integer$IntegerCache" "high" "I").before a0 Z = true := hw _ (List.mem_of_getElem? (i := 40) rfl)
theorem ow41 {Z : State} {a0 : Array Value} (hw : ∀ d ∈ tables_1, d.before a0 Z = true) : (Jvm.Cond.initialized "java/lang/Integer$IntegerCache").before a0 Z = true := hw _ (List.mem_of_getElem? (i := 41) rfl)
theorem ow42 {Z : State} {a0 : Array Value} (hw : ∀ d ∈ tables_1, d.before a0 Z = true) : (Jvm.Cond.classLink "java/lang/Integer" (1 : Nat) "java/lang/Integer").before a0 Z = true := hw _ (List.mem_of_getElem? (i := 42) rfl)
theorem ow43 {Z : State} {a0 : Array Value} (hw : ∀ d ∈ tables_1, d.before a0 Z = true) : (Jvm.Cond.instantiable "java/lang/Integer" (1 : Nat)).before a0 Z = true := hw _ (List.mem_of_getElem? (i := 43) rfl)
theorem ow44 {Z : State} {a0 : Array Value} (hw : ∀ d ∈ tables_1, d.before a0 Z = true) : (Jvm.Cond.methodLink "java/lang/Integer" (199 : Nat) ({ cls := "java/lang/Integer", name := "<init>", desc := "(I)V" } : Jvm.MethodName)).before a0 Z = true := hw _ (List.mem_of_getElem? (i := 44) rfl)
theorem ow45 {Z : State} {a0 : Array Value} (hw : ∀ d ∈ tables_1, d.before a0 Z = true) : (Jvm.Cond.instanceMethod ({ cls := "java/lang/Integer", name := "<init>", desc := "(I)V" } : Jvm.MethodName)).before a0 Z = true := hw _ (List.mem_of_getElem? (i := 45) rfl)
theorem ow47 {Z : State} {a0 : Array Value} (hw : ∀ d ∈ tables_1, d.before a0 Z = true) : (Jvm.Cond.code ({ cls := "java/lang/Integer", name := "<init>", desc := "(I)V" } : Jvm.MethodName) jdk_33_method_23_code (2 : Nat) (Option.none : Option Jvm.ClassFile.FieldType)).before a0 Z = true := hw _ (List.mem_of_getElem? (i := 47) rfl)
theorem ow48 {Z : State} {a0 : Array Value} (hw : ∀ d ∈ tables_1, d.before a0 Z = true) : (Jvm.Cond.methodLink "java/lang/Integer" (202 : Nat) ({ cls := "java/lang/Number", name := "<init>", desc := "()V" } : Jvm.MethodName)).before a0 Z = true := hw _ (List.mem_of_getElem? (i := 48) rfl)
theorem ow49 {Z : State} {a0 : Array Value} (hw : ∀ d ∈ tables_1, d.before a0 Z = true) : (Jvm.Cond.instanceMethod ({ cls := "java/lang/Number", name := "<init>", desc := "()V" } : Jvm.MethodName)).before a0 Z = true := hw _ (List.mem_of_getElem? (i := 49) rfl)
theorem ow52 {Z : State} {a0 : Array Value} (hw : ∀ d ∈ tables_1, d.before a0 Z = true) : (Jvm.Cond.initialized "java/lang/Number").before a0 Z = true := hw _ (List.mem_of_getElem? (i := 52) rfl)
theorem ow53 {Z : State} {a0 : Array Value} (hw : ∀ d ∈ tables_1, d.before a0 Z = true) : (Jvm.Cond.code ({ cls := "java/lang/Number", name := "<init>", desc := "()V" } : Jvm.MethodName) jdk_18_method_1_code (1 : Nat) (Option.none : Option Jvm.ClassFile.FieldType)).before a0 Z = true := hw _ (List.mem_of_getElem? (i := 53) rfl)
theorem ow54 {Z : State} {a0 : Array Value} (hw : ∀ d ∈ tables_1, d.before a0 Z = true) : (Jvm.Cond.methodLink "java/lang/Number" (1 : Nat) ({ cls := "java/lang/Object", name := "<init>", desc := "()V" } : Jvm.MethodName)).before a0 Z = true := hw _ (List.mem_of_getElem? (i := 54) rfl)
theorem ow55 {Z : State} {a0 : Array Value} (hw : ∀ d ∈ tables_1, d.before a0 Z = true) : (Jvm.Cond.fieldLink "java/lang/Integer" (205 : Nat) "java/lang/Integer" "value" "I").before a0 Z = true := hw _ (List.mem_of_getElem? (i := 55) rfl)
theorem ow56 {Z : State} {a0 : Array Value} (hw : ∀ d ∈ tables_1, d.before a0 Z = true) : (Jvm.Cond.laysFinal "java/lang/Integer" "java/lang/Integer" "value" "I").before a0 Z = true := hw _ (List.mem_of_getElem? (i := 56) rfl)
theorem ow57 {Z : State} {a0 : Array Value} (hw : ∀ d ∈ tables_1, d.before a0 Z = true) : (Jvm.Cond.superclass "java/lang/Integer" "java/lang/Number").before a0 Z = true := hw _ (List.mem_of_getElem? (i := 57) rfl)
theorem ow58 {Z : State} {a0 : Array Value} (hw : ∀ d ∈ tables_1, d.before a0 Z = true) : (Jvm.Cond.superclass "java/lang/Number" "java/lang/Object").before a0 Z = true := hw _ (List.mem_of_getElem? (i := 58) rfl)
theorem ow60 {Z : State} {a0 : Array Value} (hw : ∀ d ∈ tables_1, d.before a0 Z = true) : (Jvm.Cond.fieldLink "java/lang/Integer" (195 : Nat) "java/lang/Integer$IntegerCache" "cache" "[Ljava/lang/Integer;").before a0 Z = true := hw _ (List.mem_of_getElem? (i := 60) rfl)
def own_eqv (x y : Int32) : Int32 := if x = y then 1 else 0
theorem own_eqv_t {x y : Int32} (h : x = y) : own_eqv x y = 1 := if_pos h
theorem own_eqv_f {x y : Int32} (h : ¬ x = y) : own_eqv x y = 0 := if_neg h
theorem own_eqv_t' {x y : Int32} (h : y = x) : own_eqv x y = 1 := if_pos h.symm
theorem own_eqv_f' {x y : Int32} (h : ¬ y = x) : own_eqv x y = 0 := if_neg fun q => h q.symm
theorem own_eqv_r (x : Int32) : ¬ own_eqv x x = 0 := by rw [own_eqv_t rfl]; decide
theorem own_mod5 (c : Int32) : (c &&& 2147483647) % 5 = 0 ∨ (c &&& 2147483647) % 5 = 1 ∨ (c &&& 2147483647) % 5 = 2 ∨ (c &&& 2147483647) % 5 = 3 ∨ (c &&& 2147483647) % 5 = 4 := by
  have h1 := c_mask c 2147483647 31 (by decide) (by decide)
  have h2 := (c_irem (c &&& 2147483647) 5 5 (by decide)).1 (by omega)
  have h3 : ∀ k : Int32, ((c &&& 2147483647) % 5).toInt = k.toInt → (c &&& 2147483647) % 5 = k := fun k q => Int32.toInt_inj.mp q
  have a0 : (0 : Int32).toInt = 0 := by decide
  have a1 : (1 : Int32).toInt = 1 := by decide
  have a2 : (2 : Int32).toInt = 2 := by decide
  have a3 : (3 : Int32).toInt = 3 := by decide
  have a4 : (4 : Int32).toInt = 4 := by decide
  have : ((c &&& 2147483647) % 5).toInt = 0 ∨ ((c &&& 2147483647) % 5).toInt = 1 ∨ ((c &&& 2147483647) % 5).toInt = 2 ∨ ((c &&& 2147483647) % 5).toInt = 3 ∨ ((c &&& 2147483647) % 5).toInt = 4 := by omega
  rcases this with q | q | q | q | q
  · exact Or.inl (h3 0 (by rw [q, a0]))
  · exact Or.inr (Or.inl (h3 1 (by rw [q, a1])))
  · exact Or.inr (Or.inr (Or.inl (h3 2 (by rw [q, a2]))))
  · exact Or.inr (Or.inr (Or.inr (Or.inl (h3 3 (by rw [q, a3])))))
  · exact Or.inr (Or.inr (Or.inr (Or.inr (h3 4 (by rw [q, a4])))))

theorem pn0 : plainName "java/lang/Record" = true := by first | (simp [plainName, overriddenIn]; done) | decide +kernel
theorem d_jdk_30_method_1_0 : decode jdk_30_method_1_code 0 = .ok (.aload_n 0, 1) := by decide +kernel
theorem d_jdk_30_method_1_1 : decode jdk_30_method_1_code 1 = .ok (.invokespecial 1, 3) := by decide +kernel
theorem d_jdk_30_method_1_4 : decode jdk_30_method_1_code 4 = .ok (.return_, 1) := by decide +kernel
theorem ef_rm1 (m : MethodId) (x0 : Addr) : entryFrame m #[(.ref x0)] 1 = mkF m 0 #[.val (.ref x0)] [] := by first | (simp [entryFrame, mkF, argsToLocals, Value.category]; done) | rfl
def Q_rm1 (Z : State) (a : Addr) (h0 : Heap) (n0 : Nat) (v : Option Value) (h : Heap) (L : List Loc) : Prop := v = none ∧ Fr n0 L ∧ h = h0
set_option maxRecDepth 65536 in
set_option maxHeartbeats 40000000 in
theorem rm1 (l : Launch) (Z : State) (a0 : Array Value) (hw : ∀ d ∈ tables_1, d.before a0 Z = true) (ws : List Jvm.Cond) (a : Addr) (h0 : Heap) (n0 : Nat) (Z0 : n0 ≤ h0.size)  :
    OCon l Z (⟨"java/lang/Record", "<init>", "()V"⟩ : MethodName) jdk_30_method_1_code 1 none ws ({ frames := 1, cells := 0, slots := 0, locals := 12 } : Room) #[(.ref a)] h0 (Q_rm1 Z a h0 n0) := by
  refine OCon.of (plainFor_of_name pn0) ?_
  intro p e s m below meth c s₁ Φ X0 hx hby hml hown hnm hret hlk hZ e0 hΦ
  have N0 := Fr.nil n0
  refine OGo.st (fun _ kz => castTop (ef_rm1 m a) kz) ?_
  show OGo p.tables e below Φ (s₁.setTop (mkF m 0 #[.val (.ref a)] []))
  refine OGo.st (fun _ kz => XS.aloadN X0.here hx rfl (hb hby d_jdk_30_method_1_0) rfl rfl kz) ?_
  show OGo p.tables e below Φ (s₁.setTop (mkF m 1 #[.val (.ref a)] [(.ref a)]))
  obtain ⟨T1, X1, e1, st1⟩ := initO X0 hx hZ hown (ow11 hw) (ow12 hw) (ow13 hw) e0 (g := (mkF m 1 #[.val (.ref a)] [(.ref a)])) rfl (by rw [hml]; rfl) rfl (hb hby d_jdk_30_method_1_1) (by decide) (W := 0) (Nat.le_of_eq rfl) (by decide)
  refine OGo.st st1 ?_
  show OGo p.tables e below Φ (T1.setTop (mkF m 4 #[.val (.ref a)] []))
  refine OGo.fin X1 hlk (v := none) (fun _ => rfl) (by decide) (by decide) (fun fs hr => X1.returnOut hx hret (hb hby d_jdk_30_method_1_4) hr) fun U eU hF => hΦ _ _ _ ?_ hF
  rw [eU, e1]
  show Q_rm1 Z a h0 n0 _ _ _
  exact ⟨rfl, N0, rfl⟩

theorem pn1 : plainName "com/example/tersewire/tersewire/ArrayType" = true := by first | (simp [plainName, overriddenIn]; done) | decide +kernel
theorem d_prog_1_method_1_0 : decode prog_1_method_1_code 0 = .ok (.aload_n 0, 1) := by decide +kernel
theorem d_prog_1_method_1_1 : decode prog_1_method_1_code 1 = .ok (.invokespecial 1, 3) := by decide +kernel
theorem pd0 : parseMethodDescriptor "()V" = some ⟨[], none⟩ := by decide +kernel
theorem d_prog_1_method_1_4 : decode prog_1_method_1_code 4 = .ok (.aload_n 0, 1) := by decide +kernel
theorem d_prog_1_method_1_5 : decode prog_1_method_1_code 5 = .ok (.iload_n 1, 1) := by decide +kernel
theorem d_prog_1_method_1_6 : decode prog_1_method_1_code 6 = .ok (.putfield 7, 3) := by decide +kernel
theorem d_prog_1_method_1_9 : decode prog_1_method_1_code 9 = .ok (.return_, 1) := by decide +kernel
theorem ef_rm2 (m : MethodId) (x0 : Addr) (x1 : Int32) : entryFrame m #[(.ref x0), (.int x1)] 2 = mkF m 0 #[.val (.ref x0), .val (.int x1)] [] := by first | (simp [entryFrame, mkF, argsToLocals, Value.category]; done) | rfl
def Q_rm2 (Z : State) (a : Addr) (x1 : Int32) (u0 : Value) (h0 : Heap) (n0 : Nat) (v : Option Value) (h : Heap) (L : List Loc) : Prop := v = none ∧ Fr n0 L ∧ Keep h0 h [a] ∧ Exa Z h a "com/example/tersewire/tersewire/ArrayType" ∧ Fld Z h a "com/example/tersewire/tersewire/ArrayType" "elementType" "I" (.int x1)
set_option maxRecDepth 65536 in
set_option maxHeartbeats 40000000 in
theorem rm2 (l : Launch) (Z : State) (a0 : Array Value) (hw : ∀ d ∈ tables_1, d.before a0 Z = true) (ws : List Jvm.Cond) (a : Addr) (x1 : Int32) (u0 : Value) (h0 : Heap) (n0 : Nat) (Z0 : n0 ≤ h0.size) (E_a : Exa Z h0 a "com/example/tersewire/tersewire/ArrayType") (g_a : n0 ≤ a) (F_0 : Fld Z h0 a "com/example/tersewire/tersewire/ArrayType" "elementType" "I" u0) :
    OCon l Z (⟨"com/example/tersewire/tersewire/ArrayType", "<init>", "(I)V"⟩ : MethodName) prog_1_method_1_code 2 none ws ({ frames := 2, cells := 0, slots := 0, locals := 24 } : Room) #[(.ref a), (.int x1)] h0 (Q_rm2 Z a x1 u0 h0 n0) := by
  refine OCon.of (plainFor_of_name pn1) ?_
  intro p e s m below meth c s₁ Φ X0 hx hby hml hown hnm hret hlk hZ e0 hΦ
  have N0 := Fr.nil n0
  refine OGo.st (fun _ kz => castTop (ef_rm2 m a x1) kz) ?_
  have K0 := Keep.refl h0 [a]
  show OGo p.tables e below Φ (s₁.setTop (mkF m 0 #[.val (.ref a), .val (.int x1)] []))
  refine OGo.st (fun _ kz => XS.aloadN X0.here hx rfl (hb hby d_prog_1_method_1_0) rfl rfl kz) ?_
  show OGo p.tables e below Φ (s₁.setTop (mkF m 1 #[.val (.ref a), .val (.int x1)] [(.ref a)]))
  obtain ⟨_, T1, L1, X1, hQ1, st1⟩ := own_callSp X0 hx hZ rfl hown (ow6 hw) (ow7 hw) (ow9 hw) (ow10 hw) (by decide) (rm1 l Z a0 hw [] a h0 n0 Z0 ) e0 (W := 0) (by decide) (by decide) (by decide) (by decide) (pc := 1) (ls := #[.val (.ref a), .val (.int x1)]) (stk := [(.ref a)]) (by rw [hml]; rfl) (a := a) (argsL := []) (rest := []) (lenOf pd0 rfl) rfl rfl (Nat.le_of_eq rfl) (hb hby d_prog_1_method_1_1)
  obtain ⟨rfl, Nq1, e1⟩ := hQ1
  have N1 := Fr.app N0 Nq1
  refine OGo.st st1 ?_
  show OGo p.tables e below Φ (T1.setTop (mkF m 4 #[.val (.ref a), .val (.int x1)] []))
  refine OGo.st (fun _ kz => XS.aloadN X1.here hx rfl (hb hby d_prog_1_method_1_4) rfl rfl kz) ?_
  show OGo p.tables e below Φ (T1.setTop (mkF m 5 #[.val (.ref a), .val (.int x1)] [(.ref a)]))
  refine OGo.st (fun _ kz => XS.iloadN X1.here hx rfl (hb hby d_prog_1_method_1_5) rfl kz) ?_
  show OGo p.tables e below Φ (T1.setTop (mkF m 6 #[.val (.ref a), .val (.int x1)] [(.int x1), (.ref a)]))
  obtain ⟨T2, h2, X2, e2, W2, st2⟩ := putF X1 hx hZ hown (host := "") (Or.inl (ow14 hw)) Via.refl e1 F_0 E_a (Or.inr ⟨(ow15 hw), rfl, hnm⟩) (ow1 hw) (ty := .int) (by decide) rfl rfl (g := (mkF m 6 #[.val (.ref a), .val (.int x1)] [(.int x1), (.ref a)])) rfl rfl (hb hby d_prog_1_method_1_6)
  have F3 := E_a.wr W2
  have F4 := F_0.same W2
  have K2 := K0.wr W2 (Or.inl (List.mem_of_getElem? (i := 0) rfl))
  have N2 := Fr.snoc X2 N1 g_a
  have Zs2 : n0 ≤ h2.size := by rw [W2.size]; exact Z0
  refine OGo.st st2 ?_
  show OGo p.tables e below Φ (T2.setTop (mkF m 9 #[.val (.ref a), .val (.int x1)] []))
  refine OGo.fin X2 hlk (v := none) (fun _ => rfl) (by decide) (by decide) (fun fs hr => X2.returnOut hx hret (hb hby d_prog_1_method_1_9) hr) fun U eU hF => hΦ _ _ _ ?_ hF
  rw [eU, e2]
  show Q_rm2 Z a x1 u0 h0 n0 _ _ _
  exact ⟨rfl, N2, K2, F3, F4⟩

theorem pn2 : plainName "com/example/tersewire/tersewire/UnionType" = true := by first | (simp [plainName, overriddenIn]; done) | decide +kernel
theorem d_prog_28_method_1_0 : decode prog_28_method_1_code 0 = .ok (.aload_n 0, 1) := by decide +kernel
theorem d_prog_28_method_1_1 : decode prog_28_method_1_code 1 = .ok (.invokespecial 1, 3) := by decide +kernel
theorem d_prog_28_method_1_4 : decode prog_28_method_1_code 4 = .ok (.aload_n 0, 1) := by decide +kernel
theorem d_prog_28_method_1_5 : decode prog_28_method_1_code 5 = .ok (.aload_n 1, 1) := by decide +kernel
theorem d_prog_28_method_1_6 : decode prog_28_method_1_code 6 = .ok (.putfield 7, 3) := by decide +kernel
theorem d_prog_28_method_1_9 : decode prog_28_method_1_code 9 = .ok (.return_, 1) := by decide +kernel
theorem ef_rm3 (m : MethodId) (x0 : Addr) (x1 : Addr) : entryFrame m #[(.ref x0), (.ref x1)] 2 = mkF m 0 #[.val (.ref x0), .val (.ref x1)] [] := by first | (simp [entryFrame, mkF, argsToLocals, Value.category]; done) | rfl
def Q_rm3 (Z : State) (a : Addr) (x1 : Addr) (u0 : Value) (h0 : Heap) (n0 : Nat) (v : Option Value) (h : Heap) (L : List Loc) : Prop := v = none ∧ Fr n0 L ∧ Keep h0 h [a] ∧ Exa Z h a "com/example/tersewire/tersewire/UnionType" ∧ Fld Z h a "com/example/tersewire/tersewire/UnionType" "members" "[I" (.ref x1)
set_option maxRecDepth 65536 in
set_option maxHeartbeats 40000000 in
theorem rm3 (l : Launch) (Z : State) (a0 : Array Value) (hw : ∀ d ∈ tables_1, d.before a0 Z = true) (ws : List Jvm.Cond) (a : Addr) (x1 : Addr) (u0 : Value) (h0 : Heap) (n0 : Nat) (Z0 : n0 ≤ h0.size) (E_a : Exa Z h0 a "com/example/tersewire/tersewire/UnionType") (g_a : n0 ≤ a) (F_0 : Fld Z h0 a "com/example/tersewire/tersewire/UnionType" "members" "[I" u0) :
    OCon l Z (⟨"com/example/tersewire/tersewire/UnionType", "<init>", "([I)V"⟩ : MethodName) prog_28_method_1_code 2 none ws ({ frames := 2, cells := 0, slots := 0, locals := 24 } : Room) #[(.ref a), (.ref x1)] h0 (Q_rm3 Z a x1 u0 h0 n0) := by
  refine OCon.of (plainFor_of_name pn2) ?_
  intro p e s m below meth c s₁ Φ X0 hx hby hml hown hnm hret hlk hZ e0 hΦ
  have N0 := Fr.nil n0
  refine OGo.st (fun _ kz => castTop (ef_rm3 m a x1) kz) ?_
  have K0 := Keep.refl h0 [a]
  show OGo p.tables e below Φ (s₁.setTop (mkF m 0 #[.val (.ref a), .val (.ref x1)] []))
  refine OGo.st (fun _ kz => XS.aloadN X0.here hx rfl (hb hby d_prog_28_method_1_0) rfl rfl kz) ?_
  show OGo p.tables e below Φ (s₁.setTop (mkF m 1 #[.val (.ref a), .val (.ref x1)] [(.ref a)]))
  obtain ⟨_, T1, L1, X1, hQ1, st1⟩ := own_callSp X0 hx hZ rfl hown (ow29 hw) (ow7 hw) (ow9 hw) (ow10 hw) (by decide) (rm1 l Z a0 hw [] a h0 n0 Z0 ) e0 (W := 0) (by decide) (by decide) (by decide) (by decide) (pc := 1) (ls := #[.val (.ref a), .val (.ref x1)]) (stk := [(.ref a)]) (by rw [hml]; rfl) (a := a) (argsL := []) (rest := []) (lenOf pd0 rfl) rfl rfl (Nat.le_of_eq rfl) (hb hby d_prog_28_method_1_1)
  obtain ⟨rfl, Nq1, e1⟩ := hQ1
  have N1 := Fr.app N0 Nq1
  refine OGo.st st1 ?_
  show OGo p.tables e below Φ (T1.setTop (mkF m 4 #[.val (.ref a), .val (.ref x1)] []))
  refine OGo.st (fun _ kz => XS.aloadN X1.here hx rfl (hb hby d_prog_28_method_1_4) rfl rfl kz) ?_
  show OGo p.tables e below Φ (T1.setTop (mkF m 5 #[.val (.ref a), .val (.ref x1)] [(.ref a)]))
  refine OGo.st (fun _ kz => XS.aloadN X1.here hx rfl (hb hby d_prog_28_method_1_5) rfl rfl kz) ?_
  show OGo p.tables e below Φ (T1.setTop (mkF m 6 #[.val (.ref a), .val (.ref x1)] [(.ref x1), (.ref a)]))
  obtain ⟨T2, h2, X2, e2, W2, st2⟩ := putF X1 hx hZ hown (host := "") (Or.inl (ow30 hw)) Via.refl e1 F_0 E_a (Or.inr ⟨(ow31 hw), rfl, hnm⟩) (ow24 hw) (ty := (.array .int)) (by decide) rfl rfl (g := (mkF m 6 #[.val (.ref a), .val (.ref x1)] [(.ref x1), (.ref a)])) rfl rfl (hb hby d_prog_28_method_1_6)
  have F3 := E_a.wr W2
  have F4 := F_0.same W2
  have K2 := K0.wr W2 (Or.inl (List.mem_of_getElem? (i := 0) rfl))
  have N2 := Fr.snoc X2 N1 g_a
  have Zs2 : n0 ≤ h2.size := by rw [W2.size]; exact Z0
  refine OGo.st st2 ?_
  show OGo p.tables e below Φ (T2.setTop (mkF m 9 #[.val (.ref a), .val (.ref x1)] []))
  refine OGo.fin X2 hlk (v := none) (fun _ => rfl) (by decide) (by decide) (fun fs hr => X2.returnOut hx hret (hb hby d_prog_28_method_1_9) hr) fun U eU hF => hΦ _ _ _ ?_ hF
  rw [eU, e2]
  show Q_rm3 Z a x1 u0 h0 n0 _ _ _
  exact ⟨rfl, N2, K2, F3, F4⟩

theorem d_prog_1_method_2_0 : decode prog_1_method_2_code 0 = .ok (.aload_n 1, 1) := by decide +kernel
theorem d_prog_1_method_2_1 : decode prog_1_method_2_code 1 = .ok (.instanceof 8, 3) := by decide +kernel
theorem d_prog_1_method_2_4 : decode prog_1_method_2_code 4 = .ok (.ifCond .eq 23, 3) := by decide +kernel
theorem d_prog_1_method_2_7 : decode prog_1_method_2_code 7 = .ok (.aload_n 1, 1) := by decide +kernel
theorem d_prog_1_method_2_8 : decode prog_1_method_2_code 8 = .ok (.checkcast 8, 3) := by decide +kernel
theorem d_prog_1_method_2_11 : decode prog_1_method_2_code 11 = .ok (.astore_n 2, 1) := by decide +kernel
theorem d_prog_1_method_2_12 : decode prog_1_method_2_code 12 = .ok (.aload_n 0, 1) := by decide +kernel
theorem d_prog_1_method_2_13 : decode prog_1_method_2_code 13 = .ok (.getfield 7, 3) := by decide +kernel
theorem d_prog_1_method_2_16 : decode prog_1_method_2_code 16 = .ok (.aload_n 2, 1) := by decide +kernel
theorem d_prog_1_method_2_17 : decode prog_1_method_2_code 17 = .ok (.getfield 7, 3) := by decide +kernel
theorem d_prog_1_method_2_20 : decode prog_1_method_2_code 20 = .ok (.if_icmp .ne 7, 3) := by decide +kernel
theorem d_prog_1_method_2_23 : decode prog_1_method_2_code 23 = .ok (.iconst 1, 1) := by decide +kernel
theorem d_prog_1_method_2_24 : decode prog_1_method_2_code 24 = .ok (.goto 4, 3) := by decide +kernel
theorem d_prog_1_method_2_28 : decode prog_1_method_2_code 28 = .ok (.ireturn, 1) := by decide +kernel
theorem d_prog_1_method_2_27 : decode prog_1_method_2_code 27 = .ok (.iconst 0, 1) := by decide +kernel
theorem ef_rm4a (m : MethodId) (x0 : Addr) (x1 : Addr) : entryFrame m #[(.ref x0), (.ref x1)] 3 = mkF m 0 #[.val (.ref x0), .val (.ref x1), .unset] [] := by first | (simp [entryFrame, mkF, argsToLocals, Value.category]; done) | rfl
def Q_rm4a (Z : State) (a : Addr) (o : Addr) (x : Int32) (y : Int32) (h0 : Heap) (n0 : Nat) (v : Option Value) (h : Heap) (L : List Loc) : Prop := v = some (.int (own_eqv x y)) ∧ Fr n0 L ∧ h = h0
set_option maxRecDepth 65536 in
set_option maxHeartbeats 40000000 in
theorem rm4a (l : Launch) (Z : State) (a0 : Array Value) (hw : ∀ d ∈ tables_1, d.before a0 Z = true) (ws : List Jvm.Cond) (a : Addr) (o : Addr) (x : Int32) (y : Int32) (h0 : Heap) (n0 : Nat) (Z0 : n0 ≤ h0.size) (F_a : Fld Z h0 a "com/example/tersewire/tersewire/ArrayType" "elementType" "I" (.int x)) (F_o : Fld Z h0 o "com/example/tersewire/tersewire/ArrayType" "elementType" "I" (.int y)) (E_o : Exa Z h0 o "com/example/tersewire/tersewire/ArrayType") :
    OCon l Z (⟨"com/example/tersewire/tersewire/ArrayType", "equals", "(Ljava/lang/Object;)Z"⟩ : MethodName) prog_1_method_2_code 3 (some .boolean) ws ({ frames := 0, cells := 0, slots := 0, locals := 0 } : Room) #[(.ref a), (.ref o)] h0 (Q_rm4a Z a o x y h0 n0) := by
  refine OCon.of (plainFor_of_name pn1) ?_
  intro p e s m below meth c s₁ Φ X0 hx hby hml hown hnm hret hlk hZ e0 hΦ
  have N0 := Fr.nil n0
  refine OGo.st (fun _ kz => castTop (ef_rm4a m a o) kz) ?_
  show OGo p.tables e below Φ (s₁.setTop (mkF m 0 #[.val (.ref a), .val (.ref o), .unset] []))
  refine OGo.st (fun _ kz => XS.aloadN X0.here hx rfl (hb hby d_prog_1_method_2_0) rfl rfl kz) ?_
  show OGo p.tables e below Φ (s₁.setTop (mkF m 1 #[.val (.ref a), .val (.ref o), .unset] [(.ref o)]))
  obtain ⟨T1, X1, e1, st1⟩ := instY X0 hx hZ hown (ow32 hw) e0 (Ins.self E_o) (g := (mkF m 1 #[.val (.ref a), .val (.ref o), .unset] [(.ref o)])) rfl rfl (hb hby d_prog_1_method_2_1)
  refine OGo.st st1 ?_
  show OGo p.tables e below Φ (T1.setTop (mkF m 4 #[.val (.ref a), .val (.ref o), .unset] [(.int (1 : Int32))]))
  refine OGo.st (fun _ kz => XS.ifNo X1.here hx rfl (hb hby d_prog_1_method_2_4) rfl (XT.i0_eq_f (by decide)) kz) ?_
  show OGo p.tables e below Φ (T1.setTop (mkF m 7 #[.val (.ref a), .val (.ref o), .unset] []))
  refine OGo.st (fun _ kz => XS.aloadN X1.here hx rfl (hb hby d_prog_1_method_2_7) rfl rfl kz) ?_
  show OGo p.tables e below Φ (T1.setTop (mkF m 8 #[.val (.ref a), .val (.ref o), .unset] [(.ref o)]))
  obtain ⟨T2, X2, e2, st2⟩ := castY X1 hx hZ hown (ow32 hw) e1 (Ins.self E_o) (g := (mkF m 8 #[.val (.ref a), .val (.ref o), .unset] [(.ref o)])) rfl rfl (hb hby d_prog_1_method_2_8)
  refine OGo.st st2 ?_
  show OGo p.tables e below Φ (T2.setTop (mkF m 11 #[.val (.ref a), .val (.ref o), .unset] [(.ref o)]))
  refine OGo.st (fun _ kz => XS.astoreN X2.here hx rfl (hb hby d_prog_1_method_2_11) rfl rfl (l' := #[.val (.ref a), .val (.ref o), .val (.ref o)]) rfl kz) ?_
  show OGo p.tables e below Φ (T2.setTop (mkF m 12 #[.val (.ref a), .val (.ref o), .val (.ref o)] []))
  refine OGo.st (fun _ kz => XS.aloadN X2.here hx rfl (hb hby d_prog_1_method_2_12) rfl rfl kz) ?_
  show OGo p.tables e below Φ (T2.setTop (mkF m 13 #[.val (.ref a), .val (.ref o), .val (.ref o)] [(.ref a)]))
  obtain ⟨T3, X3, e3, st3⟩ := getF X2 hx hZ hown (host := "") (Or.inl (ow14 hw)) Via.refl e2 F_a (g := (mkF m 13 #[.val (.ref a), .val (.ref o), .val (.ref o)] [(.ref a)])) rfl rfl (hb hby d_prog_1_method_2_13)
  refine OGo.st st3 ?_
  show OGo p.tables e below Φ (T3.setTop (mkF m 16 #[.val (.ref a), .val (.ref o), .val (.ref o)] [(.int x)]))
  refine OGo.st (fun _ kz => XS.aloadN X3.here hx rfl (hb hby d_prog_1_method_2_16) rfl rfl kz) ?_
  show OGo p.tables e below Φ (T3.setTop (mkF m 17 #[.val (.ref a), .val (.ref o), .val (.ref o)] [(.ref o), (.int x)]))
  obtain ⟨T4, X4, e4, st4⟩ := getF X3 hx hZ hown (host := "") (Or.inl (ow14 hw)) Via.refl e3 F_o (g := (mkF m 17 #[.val (.ref a), .val (.ref o), .val (.ref o)] [(.ref o), (.int x)])) rfl rfl (hb hby d_prog_1_method_2_17)
  refine OGo.st st4 ?_
  show OGo p.tables e below Φ (T4.setTop (mkF m 20 #[.val (.ref a), .val (.ref o), .val (.ref o)] [(.int y), (.int x)]))
  by_cases hc5 : x = y
  · refine OGo.st (fun _ kz => XS.icmpNo X4.here hx rfl (hb hby d_prog_1_method_2_20) rfl (XT.ii_ne_f hc5) kz) ?_
    show OGo p.tables e below Φ (T4.setTop (mkF m 23 #[.val (.ref a), .val (.ref o), .val (.ref o)] []))
    refine OGo.st (fun _ kz => XS.iconst X4.here hx rfl (hb hby d_prog_1_method_2_23) kz) ?_
    show OGo p.tables e below Φ (T4.setTop (mkF m 24 #[.val (.ref a), .val (.ref o), .val (.ref o)] [(.int (1 : Int32))]))
    refine OGo.st (fun _ kz => XS.goto X4.here hx rfl (pc0 := 24) (pc' := 28) rfl (hb hby d_prog_1_method_2_24) (by decide) (by decide) kz) ?_
    show OGo p.tables e below Φ (T4.setTop (mkF m 28 #[.val (.ref a), .val (.ref o), .val (.ref o)] [(.int (1 : Int32))]))
    refine OGo.fin X4 hlk (v := (some (.int (1 : Int32)))) (fun h => by rw [hret] at h; cases h) (by decide) (by decide) (fun fs hr => X4.ireturnOut hx hret rfl (by simp) (hb hby d_prog_1_method_2_28) hr) fun U eU hF => hΦ _ _ _ ?_ hF
    rw [eU, e4]
    show Q_rm4a Z a o x y h0 n0 _ _ _
    exact ⟨by simp [own_eqv, hc5], N0, rfl⟩
  · refine OGo.st (fun _ kz => XS.icmpYes X4.here hx rfl (pc0 := 20) (pc' := 27) rfl (hb hby d_prog_1_method_2_20) rfl (XT.ii_ne_t hc5) (by decide) (by decide) kz) ?_
    show OGo p.tables e below Φ (T4.setTop (mkF m 27 #[.val (.ref a), .val (.ref o), .val (.ref o)] []))
    refine OGo.st (fun _ kz => XS.iconst X4.here hx rfl (hb hby d_prog_1_method_2_27) kz) ?_
    show OGo p.tables e below Φ (T4.setTop (mkF m 28 #[.val (.ref a), .val (.ref o), .val (.ref o)] [(.int (0 : Int32))]))
    refine OGo.fin X4 hlk (v := (some (.int (0 : Int32)))) (fun h => by rw [hret] at h; cases h) (by decide) (by decide) (fun fs hr => X4.ireturnOut hx hret rfl (by simp) (hb hby d_prog_1_method_2_28) hr) fun U eU hF => hΦ _ _ _ ?_ hF
    rw [eU, e4]
    show Q_rm4a Z a o x y h0 n0 _ _ _
    exact ⟨by simp [own_eqv, hc5], N0, rfl⟩

theorem ef_rm4n (m : MethodId) (x0 : Addr) : entryFrame m #[(.ref x0), .null] 3 = mkF m 0 #[.val (.ref x0), .val .null, .unset] [] := by first | (simp [entryFrame, mkF, argsToLocals, Value.category]; done) | rfl
def Q_rm4n (Z : State) (a : Addr) (h0 : Heap) (n0 : Nat) (v : Option Value) (h : Heap) (L : List Loc) : Prop := v = some (.int (0 : Int32)) ∧ Fr n0 L ∧ h = h0
set_option maxRecDepth 65536 in
set_option maxHeartbeats 40000000 in
theorem rm4n (l : Launch) (Z : State) (a0 : Array Value) (hw : ∀ d ∈ tables_1, d.before a0 Z = true) (ws : List Jvm.Cond) (a : Addr) (h0 : Heap) (n0 : Nat) (Z0 : n0 ≤ h0.size)  :
    OCon l Z (⟨"com/example/tersewire/tersewire/ArrayType", "equals", "(Ljava/lang/Object;)Z"⟩ : MethodName) prog_1_method_2_code 3 (some .boolean) ws ({ frames := 0, cells := 0, slots := 0, locals := 0 } : Room) #[(.ref a), .null] h0 (Q_rm4n Z a h0 n0) := by
  refine OCon.of (plainFor_of_name pn1) ?_
  intro p e s m below meth c s₁ Φ X0 hx hby hml hown hnm hret hlk hZ e0 hΦ
  have N0 := Fr.nil n0
  refine OGo.st (fun _ kz => castTop (ef_rm4n m a) kz) ?_
  show OGo p.tables e below Φ (s₁.setTop (mkF m 0 #[.val (.ref a), .val .null, .unset] []))
  refine OGo.st (fun _ kz => XS.aloadN X0.here hx rfl (hb hby d_prog_1_method_2_0) rfl rfl kz) ?_
  show OGo p.tables e below Φ (s₁.setTop (mkF m 1 #[.val (.ref a), .val .null, .unset] [.null]))
  refine OGo.st (X0.instanceofNull hx (g := (mkF m 1 #[.val (.ref a), .val .null, .unset] [.null])) rfl rfl (hb hby d_prog_1_method_2_1)) ?_
  show OGo p.tables e below Φ (s₁.setTop (mkF m 4 #[.val (.ref a), .val .null, .unset] [(.int (0 : Int32))]))
  refine OGo.st (fun _ kz => XS.ifYes X0.here hx rfl (pc0 := 4) (pc' := 27) rfl (hb hby d_prog_1_method_2_4) rfl (XT.i0_eq_t (by decide)) (by decide) (by decide) kz) ?_
  show OGo p.tables e below Φ (s₁.setTop (mkF m 27 #[.val (.ref a), .val .null, .unset] []))
  refine OGo.st (fun _ kz => XS.iconst X0.here hx rfl (hb hby d_prog_1_method_2_27) kz) ?_
  show OGo p.tables e below Φ (s₁.setTop (mkF m 28 #[.val (.ref a), .val .null, .unset] [(.int (0 : Int32))]))
  refine OGo.fin X0 hlk (v := (some (.int (0 : Int32)))) (fun h => by rw [hret] at h; cases h) (by decide) (by decide) (fun fs hr => X0.ireturnOut hx hret rfl (by simp) (hb hby d_prog_1_method_2_28) hr) fun U eU hF => hΦ _ _ _ ?_ hF
  rw [eU, e0]
  show Q_rm4n Z a h0 n0 _ _ _
  exact ⟨rfl, N0, rfl⟩

theorem ef_rm4u (m : MethodId) (x0 : Addr) (x1 : Addr) : entryFrame m #[(.ref x0), (.ref x1)] 3 = mkF m 0 #[.val (.ref x0), .val (.ref x1), .unset] [] := by first | (simp [entryFrame, mkF, argsToLocals, Value.category]; done) | rfl
def Q_rm4u (Z : State) (a : Addr) (o : Addr) (h0 : Heap) (n0 : Nat) (v : Option Value) (h : Heap) (L : List Loc) : Prop := v = some (.int (0 : Int32)) ∧ Fr n0 L ∧ h = h0
set_option maxRecDepth 65536 in
set_option maxHeartbeats 40000000 in
theorem rm4u (l : Launch) (Z : State) (a0 : Array Value) (hw : ∀ d ∈ tables_1, d.before a0 Z = true) (ws : List Jvm.Cond) (a : Addr) (o : Addr) (h0 : Heap) (n0 : Nat) (Z0 : n0 ≤ h0.size) (E_o : Exa Z h0 o "com/example/tersewire/tersewire/UnionType") :
    OCon l Z (⟨"com/example/tersewire/tersewire/ArrayType", "equals", "(Ljava/lang/Object;)Z"⟩ : MethodName) prog_1_method_2_code 3 (some .boolean) ws ({ frames := 0, cells := 0, slots := 0, locals := 0 } : Room) #[(.ref a), (.ref o)] h0 (Q_rm4u Z a o h0 n0) := by
  refine OCon.of (plainFor_of_name pn1) ?_
  intro p e s m below meth c s₁ Φ X0 hx hby hml hown hnm hret hlk hZ e0 hΦ
  have N0 := Fr.nil n0
  refine OGo.st (fun _ kz => castTop (ef_rm4u m a o) kz) ?_
  show OGo p.tables e below Φ (s₁.setTop (mkF m 0 #[.val (.ref a), .val (.ref o), .unset] []))
  refine OGo.st (fun _ kz => XS.aloadN X0.here hx rfl (hb hby d_prog_1_method_2_0) rfl rfl kz) ?_
  show OGo p.tables e below Φ (s₁.setTop (mkF m 1 #[.val (.ref a), .val (.ref o), .unset] [(.ref o)]))
  obtain ⟨T1, X1, e1, st1⟩ := instNo X0 hx hZ hown (ow32 hw) e0 E_o (own_nsNo (ow33 hw) (ow1 hw) (NS.step (ow33 hw) (NS.step (ow34 hw) (own_nsRoot (ow35 hw) (ow1 hw) (by decide)) (by decide)) (by decide)) (by decide)) (g := (mkF m 1 #[.val (.ref a), .val (.ref o), .unset] [(.ref o)])) rfl rfl (hb hby d_prog_1_method_2_1)
  refine OGo.st st1 ?_
  show OGo p.tables e below Φ (T1.setTop (mkF m 4 #[.val (.ref a), .val (.ref o), .unset] [(.int (0 : Int32))]))
  refine OGo.st (fun _ kz => XS.ifYes X1.here hx rfl (pc0 := 4) (pc' := 27) rfl (hb hby d_prog_1_method_2_4) rfl (XT.i0_eq_t (by decide)) (by decide) (by decide) kz) ?_
  show OGo p.tables e below Φ (T1.setTop (mkF m 27 #[.val (.ref a), .val (.ref o), .unset] []))
  refine OGo.st (fun _ kz => XS.iconst X1.here hx rfl (hb hby d_prog_1_method_2_27) kz) ?_
  show OGo p.tables e below Φ (T1.setTop (mkF m 28 #[.val (.ref a), .val (.ref o), .unset] [(.int (0 : Int32))]))
  refine OGo.fin X1 hlk (v := (some (.int (0 : Int32)))) (fun h => by rw [hret] at h; cases h) (by decide) (by decide) (fun fs hr => X1.ireturnOut hx hret rfl (by simp) (hb hby d_prog_1_method_2_28) hr) fun U eU hF => hΦ _ _ _ ?_ hF
  rw [eU, e1]
  show Q_rm4u Z a o h0 n0 _ _ _
  exact ⟨rfl, N0, rfl⟩

theorem ef_rm4i (m : MethodId) (x0 : Addr) (x1 : Addr) : entryFrame m #[(.ref x0), (.ref x1)] 3 = mkF m 0 #[.val (.ref x0), .val (.ref x1), .unset] [] := by first | (simp [entryFrame, mkF, argsToLocals, Value.category]; done) | rfl
def Q_rm4i (Z : State) (a : Addr) (o : Addr) (h0 : Heap) (n0 : Nat) (v : Option Value) (h : Heap) (L : List Loc) : Prop := v = some (.int (0 : Int32)) ∧ Fr n0 L ∧ h = h0
set_option maxRecDepth 65536 in
set_option maxHeartbeats 40000000 in
theorem rm4i (l : Launch) (Z : State) (a0 : Array Value) (hw : ∀ d ∈ tables_1, d.before a0 Z = true) (ws : List Jvm.Cond) (a : Addr) (o : Addr) (h0 : Heap) (n0 : Nat) (Z0 : n0 ≤ h0.size) (E_o : Exa Z h0 o "java/lang/Integer") :
    OCon l Z (⟨"com/example/tersewire/tersewire/ArrayType", "equals", "(Ljava/lang/Object;)Z"⟩ : MethodName) prog_1_method_2_code 3 (some .boolean) ws ({ frames := 0, cells := 0, slots := 0, locals := 0 } : Room) #[(.ref a), (.ref o)] h0 (Q_rm4i Z a o h0 n0) := by
  refine OCon.of (plainFor_of_name pn1) ?_
  intro p e s m below meth c s₁ Φ X0 hx hby hml hown hnm hret hlk hZ e0 hΦ
  have N0 := Fr.nil n0
  refine OGo.st (fun _ kz => castTop (ef_rm4i m a o) kz) ?_
  show OGo p.tables e below Φ (s₁.setTop (mkF m 0 #[.val (.ref a), .val (.ref o), .unset] []))
  refine OGo.st (fun _ kz => XS.aloadN X0.here hx rfl (hb hby d_prog_1_method_2_0) rfl rfl kz) ?_
  show OGo p.tables e below Φ (s₁.setTop (mkF m 1 #[.val (.ref a), .val (.ref o), .unset] [(.ref o)]))
  obtain ⟨T1, X1, e1, st1⟩ := instNo X0 hx hZ hown (ow32 hw) e0 E_o (own_nsNo (ow57 hw) (ow1 hw) (NS.step (ow57 hw) (NS.step (ow58 hw) (own_nsRoot (ow35 hw) (ow1 hw) (by decide)) (by decide)) (by decide)) (by decide)) (g := (mkF m 1 #[.val (.ref a), .val (.ref o), .unset] [(.ref o)])) rfl rfl (hb hby d_prog_1_method_2_1)
  refine OGo.st st1 ?_
  show OGo p.tables e below Φ (T1.setTop (mkF m 4 #[.val (.ref a), .val (.ref o), .unset] [(.int (0 : Int32))]))
  refine OGo.st (fun _ kz => XS.ifYes X1.here hx rfl (pc0 := 4) (pc' := 27) rfl (hb hby d_prog_1_method_2_4) rfl (XT.i0_eq_t (by decide)) (by decide) (by decide) kz) ?_
  show OGo p.tables e below Φ (T1.setTop (mkF m 27 #[.val (.ref a), .val (.ref o), .unset] []))
  refine OGo.st (fun _ kz => XS.iconst X1.here hx rfl (hb hby d_prog_1_method_2_27) kz) ?_
  show OGo p.tables e below Φ (T1.setTop (mkF m 28 #[.val (.ref a), .val (.ref o), .unset] [(.int (0 : Int32))]))
  refine OGo.fin X1 hlk (v := (some (.int (0 : Int32)))) (fun h => by rw [hret] at h; cases h) (by decide) (by decide) (fun fs hr => X1.ireturnOut hx hret rfl (by simp) (hb hby d_prog_1_method_2_28) hr) fun U eU hF => hΦ _ _ _ ?_ hF
  rw [eU, e1]
  show Q_rm4i Z a o h0 n0 _ _ _
  exact ⟨rfl, N0, rfl⟩

theorem pn3 : plainName "java/lang/Number" = true := by first | (simp [plainName, overriddenIn]; done) | decide +kernel
theorem d_jdk_18_method_1_0 : decode jdk_18_method_1_code 0 = .ok (.aload_n 0, 1) := by decide +kernel
theorem d_jdk_18_method_1_1 : decode jdk_18_method_1_code 1 = .ok (.invokespecial 1, 3) := by decide +kernel
theorem d_jdk_18_method_1_4 : decode jdk_18_method_1_code 4 = .ok (.return_, 1) := by decide +kernel
theorem ef_rmbn (m : MethodId) (x0 : Addr) : entryFrame m #[(.ref x0)] 1 = mkF m 0 #[.val (.ref x0)] [] := by first | (simp [entryFrame, mkF, argsToLocals, Value.category]; done) | rfl
def Q_rmbn (Z : State) (a : Addr) (h0 : Heap) (n0 : Nat) (v : Option Value) (h : Heap) (L : List Loc) : Prop := v = none ∧ Fr n0 L ∧ h = h0
set_option maxRecDepth 65536 in
set_option maxHeartbeats 40000000 in
theorem rmbn (l : Launch) (Z : State) (a0 : Array Value) (hw : ∀ d ∈ tables_1, d.before a0 Z = true) (ws : List Jvm.Cond) (a : Addr) (h0 : Heap) (n0 : Nat) (Z0 : n0 ≤ h0.size)  :
    OCon l Z (⟨"java/lang/Number", "<init>", "()V"⟩ : MethodName) jdk_18_method_1_code 1 none ws ({ frames := 1, cells := 0, slots := 0, locals := 12 } : Room) #[(.ref a)] h0 (Q_rmbn Z a h0 n0) := by
  refine OCon.of (plainFor_of_name pn3) ?_
  intro p e s m below meth c s₁ Φ X0 hx hby hml hown hnm hret hlk hZ e0 hΦ
  have N0 := Fr.nil n0
  refine OGo.st (fun _ kz => castTop (ef_rmbn m a) kz) ?_
  show OGo p.tables e below Φ (s₁.setTop (mkF m 0 #[.val (.ref a)] []))
  refine OGo.st (fun _ kz => XS.aloadN X0.here hx rfl (hb hby d_jdk_18_method_1_0) rfl rfl kz) ?_
  show OGo p.tables e below Φ (s₁.setTop (mkF m 1 #[.val (.ref a)] [(.ref a)]))
  obtain ⟨T1, X1, e1, st1⟩ := initO X0 hx hZ hown (ow54 hw) (ow12 hw) (ow13 hw) e0 (g := (mkF m 1 #[.val (.ref a)] [(.ref a)])) rfl (by rw [hml]; rfl) rfl (hb hby d_jdk_18_method_1_1) (by decide) (W := 0) (Nat.le_of_eq rfl) (by decide)
  refine OGo.st st1 ?_
  show OGo p.tables e below Φ (T1.setTop (mkF m 4 #[.val (.ref a)] []))
  refine OGo.fin X1 hlk (v := none) (fun _ => rfl) (by decide) (by decide) (fun fs hr => X1.returnOut hx hret (hb hby d_jdk_18_method_1_4) hr) fun U eU hF => hΦ _ _ _ ?_ hF
  rw [eU, e1]
  show Q_rmbn Z a h0 n0 _ _ _
  exact ⟨rfl, N0, rfl⟩

theorem pn4 : plainName "java/lang/Integer" = true := by first | (simp [plainName, overriddenIn]; done) | decide +kernel
theorem d_jdk_33_method_23_0 : decode jdk_33_method_23_code 0 = .ok (.aload_n 0, 1) := by decide +kernel
theorem d_jdk_33_method_23_1 : decode jdk_33_method_23_code 1 = .ok (.invokespecial 202, 3) := by decide +kernel
theorem d_jdk_33_method_23_4 : decode jdk_33_method_23_code 4 = .ok (.aload_n 0, 1) := by decide +kernel
theorem d_jdk_33_method_23_5 : decode jdk_33_method_23_code 5 = .ok (.iload_n 1, 1) := by decide +kernel
theorem d_jdk_33_method_23_6 : decode jdk_33_method_23_code 6 = .ok (.putfield 205, 3) := by decide +kernel
theorem d_jdk_33_method_23_9 : decode jdk_33_method_23_code 9 = .ok (.return_, 1) := by decide +kernel
theorem ef_rmbi (m : MethodId) (x0 : Addr) (x1 : Int32) : entryFrame m #[(.ref x0), (.int x1)] 2 = mkF m 0 #[.val (.ref x0), .val (.int x1)] [] := by first | (simp [entryFrame, mkF, argsToLocals, Value.category]; done) | rfl
def Q_rmbi (Z : State) (a : Addr) (x1 : Int32) (u0 : Value) (h0 : Heap) (n0 : Nat) (v : Option Value) (h : Heap) (L : List Loc) : Prop := v = none ∧ Fr n0 L ∧ Keep h0 h [a] ∧ Exa Z h a "java/lang/Integer" ∧ Fld Z h a "java/lang/Integer" "value" "I" (.int x1)
set_option maxRecDepth 65536 in
set_option maxHeartbeats 40000000 in
theorem rmbi (l : Launch) (Z : State) (a0 : Array Value) (hw : ∀ d ∈ tables_1, d.before a0 Z = true) (ws : List Jvm.Cond) (a : Addr) (x1 : Int32) (u0 : Value) (h0 : Heap) (n0 : Nat) (Z0 : n0 ≤ h0.size) (E_a : Exa Z h0 a "java/lang/Integer") (g_a : n0 ≤ a) (F_0 : Fld Z h0 a "java/lang/Integer" "value" "I" u0) :
    OCon l Z (⟨"java/lang/Integer", "<init>", "(I)V"⟩ : MethodName) jdk_33_method_23_code 2 none ws ({ frames := 2, cells := 0, slots := 0, locals := 24 } : Room) #[(.ref a), (.int x1)] h0 (Q_rmbi Z a x1 u0 h0 n0) := by
  refine OCon.of (plainFor_of_name pn4) ?_
  intro p e s m below meth c s₁ Φ X0 hx hby hml hown hnm hret hlk hZ e0 hΦ
  have N0 := Fr.nil n0
  refine OGo.st (fun _ kz => castTop (ef_rmbi m a x1) kz) ?_
  have K0 := Keep.refl h0 [a]
  show OGo p.tables e below Φ (s₁.setTop (mkF m 0 #[.val (.ref a), .val (.int x1)] []))
  refine OGo.st (fun _ kz => XS.aloadN X0.here hx rfl (hb hby d_jdk_33_method_23_0) rfl rfl kz) ?_
  show OGo p.tables e below Φ (s₁.setTop (mkF m 1 #[.val (.ref a), .val (.int x1)] [(.ref a)]))
  obtain ⟨_, T1, L1, X1, hQ1, st1⟩ := own_callSp X0 hx hZ rfl hown (ow48 hw) (ow49 hw) (ow52 hw) (ow53 hw) (by decide) (rmbn l Z a0 hw [] a h0 n0 Z0 ) e0 (W := 0) (by decide) (by decide) (by decide) (by decide) (pc := 1) (ls := #[.val (.ref a), .val (.int x1)]) (stk := [(.ref a)]) (by rw [hml]; rfl) (a := a) (argsL := []) (rest := []) (lenOf pd0 rfl) rfl rfl (Nat.le_of_eq rfl) (hb hby d_jdk_33_method_23_1)
  obtain ⟨rfl, Nq1, e1⟩ := hQ1
  have N1 := Fr.app N0 Nq1
  refine OGo.st st1 ?_
  show OGo p.tables e below Φ (T1.setTop (mkF m 4 #[.val (.ref a), .val (.int x1)] []))
  refine OGo.st (fun _ kz => XS.aloadN X1.here hx rfl (hb hby d_jdk_33_method_23_4) rfl rfl kz) ?_
  show OGo p.tables e below Φ (T1.setTop (mkF m 5 #[.val (.ref a), .val (.int x1)] [(.ref a)]))
  refine OGo.st (fun _ kz => XS.iloadN X1.here hx rfl (hb hby d_jdk_33_method_23_5) rfl kz) ?_
  show OGo p.tables e below Φ (T1.setTop (mkF m 6 #[.val (.ref a), .val (.int x1)] [(.int x1), (.ref a)]))
  obtain ⟨T2, h2, X2, e2, W2, st2⟩ := putF X1 hx hZ hown (host := "") (Or.inl (ow55 hw)) Via.refl e1 F_0 E_a (Or.inr ⟨(ow56 hw), rfl, hnm⟩) (ow43 hw) (ty := .int) (by decide) rfl rfl (g := (mkF m 6 #[.val (.ref a), .val (.int x1)] [(.int x1), (.ref a)])) rfl rfl (hb hby d_jdk_33_method_23_6)
  have F3 := E_a.wr W2
  have F4 := F_0.same W2
  have K2 := K0.wr W2 (Or.inl (List.mem_of_getElem? (i := 0) rfl))
  have N2 := Fr.snoc X2 N1 g_a
  have Zs2 : n0 ≤ h2.size := by rw [W2.size]; exact Z0
  refine OGo.st st2 ?_
  show OGo p.tables e below Φ (T2.setTop (mkF m 9 #[.val (.ref a), .val (.int x1)] []))
  refine OGo.fin X2 hlk (v := none) (fun _ => rfl) (by decide) (by decide) (fun fs hr => X2.returnOut hx hret (hb hby d_jdk_33_method_23_9) hr) fun U eU hF => hΦ _ _ _ ?_ hF
  rw [eU, e2]
  show Q_rmbi Z a x1 u0 h0 n0 _ _ _
  exact ⟨rfl, N2, K2, F3, F4⟩

theorem d_jdk_33_method_22_0 : decode jdk_33_method_22_code 0 = .ok (.iload_n 0, 1) := by decide +kernel
theorem d_jdk_33_method_22_1 : decode jdk_33_method_22_code 1 = .ok (.bipush (-128), 2) := by decide +kernel
theorem d_jdk_33_method_22_3 : decode jdk_33_method_22_code 3 = .ok (.if_icmp .lt 20, 3) := by decide +kernel
theorem d_jdk_33_method_22_23 : decode jdk_33_method_22_code 23 = .ok (.new 1, 3) := by decide +kernel
theorem d_jdk_33_method_22_26 : decode jdk_33_method_22_code 26 = .ok (.dup, 1) := by decide +kernel
theorem d_jdk_33_method_22_27 : decode jdk_33_method_22_code 27 = .ok (.iload_n 0, 1) := by decide +kernel
theorem d_jdk_33_method_22_28 : decode jdk_33_method_22_code 28 = .ok (.invokespecial 199, 3) := by decide +kernel
theorem pd1 : parseMethodDescriptor "(I)V" = some ⟨[.int], none⟩ := by decide +kernel
theorem d_jdk_33_method_22_31 : decode jdk_33_method_22_code 31 = .ok (.areturn, 1) := by decide +kernel
theorem d_jdk_33_method_22_6 : decode jdk_33_method_22_code 6 = .ok (.iload_n 0, 1) := by decide +kernel
theorem d_jdk_33_method_22_7 : decode jdk_33_method_22_code 7 = .ok (.getstatic 191, 3) := by decide +kernel
theorem d_jdk_33_method_22_10 : decode jdk_33_method_22_code 10 = .ok (.if_icmp .gt 13, 3) := by decide +kernel
theorem d_jdk_33_method_22_13 : decode jdk_33_method_22_code 13 = .ok (.getstatic 195, 3) := by decide +kernel
theorem d_jdk_33_method_22_16 : decode jdk_33_method_22_code 16 = .ok (.iload_n 0, 1) := by decide +kernel
theorem d_jdk_33_method_22_17 : decode jdk_33_method_22_code 17 = .ok (.sipush 128, 3) := by decide +kernel
theorem d_jdk_33_method_22_20 : decode jdk_33_method_22_code 20 = .ok (.iadd, 1) := by decide +kernel
theorem d_jdk_33_method_22_21 : decode jdk_33_method_22_code 21 = .ok (.aaload, 1) := by decide +kernel
theorem d_jdk_33_method_22_22 : decode jdk_33_method_22_code 22 = .ok (.areturn, 1) := by decide +kernel
theorem ef_rmbv (m : MethodId) (x0 : Int32) : entryFrame m #[(.int x0)] 1 = mkF m 0 #[.val (.int x0)] [] := by first | (simp [entryFrame, mkF, argsToLocals, Value.category]; done) | rfl
def Q_rmbv (Z : State) (x1 : Int32) (ac : Addr) (cc : Cell) (bv : Int32 → Value) (h0 : Heap) (n0 : Nat) (v : Option Value) (h : Heap) (L : List Loc) : Prop := ∃ b, v = some (.ref b) ∧ Fr n0 L ∧ Keep h0 h [] ∧ Exa Z h b "java/lang/Integer"
set_option maxRecDepth 65536 in
set_option maxHeartbeats 40000000 in
theorem rmbv (l : Launch) (Z : State) (a0 : Array Value) (hw : ∀ d ∈ tables_1, d.before a0 Z = true) (ws : List Jvm.Cond) (x1 : Int32) (ac : Addr) (cc : Cell) (bv : Int32 → Value) (h0 : Heap) (n0 : Nat) (Z0 : n0 ≤ h0.size) (S_h : Sta Z h0 "java/lang/Integer$IntegerCache" "high" "I" (.int (127 : Int32))) (S_c : Sta Z h0 "java/lang/Integer$IntegerCache" "cache" "[Ljava/lang/Integer;" (.ref ac)) (O_x : Ext Z.heap h0) (B_x : Bxs Z ac cc "java/lang/Integer" "I" (256 : Int32) bv) :
    OCon l Z (⟨"java/lang/Integer", "valueOf", "(I)Ljava/lang/Integer;"⟩ : MethodName) jdk_33_method_22_code 1 (some (.object "java/lang/Integer")) ws ({ frames := 3, cells := 1, slots := 1, locals := 38 } : Room) #[(.int x1)] h0 (Q_rmbv Z x1 ac cc bv h0 n0) := by
  refine OCon.of (plainFor_of_name pn4) ?_
  intro p e s m below meth c s₁ Φ X0 hx hby hml hown hnm hret hlk hZ e0 hΦ
  have N0 := Fr.nil n0
  refine OGo.st (fun _ kz => castTop (ef_rmbv m x1) kz) ?_
  have K0 := Keep.refl h0 []
  show OGo p.tables e below Φ (s₁.setTop (mkF m 0 #[.val (.int x1)] []))
  refine OGo.st (fun _ kz => XS.iloadN X0.here hx rfl (hb hby d_jdk_33_method_22_0) rfl kz) ?_
  show OGo p.tables e below Φ (s₁.setTop (mkF m 1 #[.val (.int x1)] [(.int x1)]))
  refine OGo.st (fun _ kz => XS.bipush X0.here hx rfl (hb hby d_jdk_33_method_22_1) kz) ?_
  show OGo p.tables e below Φ (s₁.setTop (mkF m 3 #[.val (.int x1)] [(.int (-128 : Int32)), (.int x1)]))
  by_cases hc1 : x1 < (-128 : Int32)
  · refine OGo.st (fun _ kz => XS.icmpYes X0.here hx rfl (pc0 := 3) (pc' := 23) rfl (hb hby d_jdk_33_method_22_3) rfl (XT.ii_lt_t hc1) (by decide) (by decide) kz) ?_
    show OGo p.tables e below Φ (s₁.setTop (mkF m 23 #[.val (.int x1)] []))
    obtain ⟨T2, h2, X2, e2, E2, A2, D2, U2, st2⟩ := newO X0 hx hZ hown (ow42 hw) (ow43 hw) (ow38 hw) e0 (g := (mkF m 23 #[.val (.int x1)] [])) rfl (hb hby d_jdk_33_method_22_23) (by decide) (by decide)
    obtain ⟨b2, g2⟩ : ∃ z, z = h0.size := ⟨_, rfl⟩
    rw [← g2] at A2 D2 st2 U2
    have F3 := S_h.ext E2
    have F4 := S_c.ext E2
    have gb2 : n0 ≤ b2 := Nat.le_trans Z0 (Nat.le_of_eq g2.symm)
    have K2 := K0.ext E2
    have sz2 : h0.size ≤ b2 := Nat.le_trans K0.1 (Nat.le_of_eq g2.symm)
    have Zs2 : n0 ≤ h2.size := Nat.le_trans Z0 E2.1
    have F2_56 : Fld Z h2 b2 "java/lang/Integer" "value" "I" (.int (0 : Int32)) := D2 (Or.inr (ow56 hw)) (ty := .int) (by decide)
    refine OGo.st (st2) ?_
    show OGo p.tables e below Φ (T2.setTop (mkF m 26 #[.val (.int x1)] [(.ref b2)]))
    refine OGo.st (fun _ kz => XS.dup X2.here hx rfl (hb hby d_jdk_33_method_22_26) rfl rfl kz) ?_
    show OGo p.tables e below Φ (T2.setTop (mkF m 27 #[.val (.int x1)] [(.ref b2), (.ref b2)]))
    refine OGo.st (fun _ kz => XS.iloadN X2.here hx rfl (hb hby d_jdk_33_method_22_27) rfl kz) ?_
    show OGo p.tables e below Φ (T2.setTop (mkF m 28 #[.val (.int x1)] [(.int x1), (.ref b2), (.ref b2)]))
    obtain ⟨_, T5, L5, X5, hQ5, st5⟩ := own_callSp X2 hx hZ rfl hown (ow44 hw) (ow45 hw) (ow38 hw) (ow47 hw) (by decide) (rmbi l Z a0 hw [] b2 x1 (.int (0 : Int32)) h2 n0 Zs2 A2 gb2 F2_56) e2 (W := 1) (by decide) (by decide) (by decide) (by decide) (pc := 28) (ls := #[.val (.int x1)]) (stk := [(.int x1), (.ref b2), (.ref b2)]) (by rw [hml]; rfl) (a := b2) (argsL := [(.int x1)]) (rest := [(.ref b2)]) (lenOf pd1 rfl) rfl rfl (Nat.le_of_eq rfl) (hb hby d_jdk_33_method_22_28)
    obtain ⟨rfl, Nq5, Kq5, Eq5, Fq5_0⟩ := hQ5
    have N5 := Fr.app N0 Nq5
    have Zs5 : n0 ≤ T5.heap.size := Nat.le_trans Zs2 Kq5.1
    have K5 := K2.trans Kq5 (allS (Or.inr sz2) all0)
    refine OGo.st st5 ?_
    show OGo p.tables e below Φ (T5.setTop (mkF m 31 #[.val (.int x1)] [(.ref b2)]))
    refine OGo.fin X5 hlk (v := (some (.ref b2))) (fun h => by rw [hret] at h; cases h) (by decide) (by decide) (fun fs hr => X5.areturnOut hx rfl hret rfl (hb hby d_jdk_33_method_22_31) hr) fun U eU hF => hΦ _ _ _ ?_ hF
    rw [eU]
    show Q_rmbv Z x1 ac cc bv h0 n0 _ _ _
    exact ⟨_, rfl, N5, K5, Eq5⟩
  · refine OGo.st (fun _ kz => XS.icmpNo X0.here hx rfl (hb hby d_jdk_33_method_22_3) rfl (XT.ii_lt_f hc1) kz) ?_
    show OGo p.tables e below Φ (s₁.setTop (mkF m 6 #[.val (.int x1)] []))
    refine OGo.st (fun _ kz => XS.iloadN X0.here hx rfl (hb hby d_jdk_33_method_22_6) rfl kz) ?_
    show OGo p.tables e below Φ (s₁.setTop (mkF m 7 #[.val (.int x1)] [(.int x1)]))
    obtain ⟨T6, X6, e6, st6⟩ := getS2 X0 hx hZ hown (host := "") (Or.inl (ow40 hw)) Via.refl e0 S_h (g := (mkF m 7 #[.val (.int x1)] [(.int x1)])) rfl (hb hby d_jdk_33_method_22_7)
    refine OGo.st st6 ?_
    show OGo p.tables e below Φ (T6.setTop (mkF m 10 #[.val (.int x1)] [(.int (127 : Int32)), (.int x1)]))
    by_cases hc7 : (127 : Int32) < x1
    · refine OGo.st (fun _ kz => XS.icmpYes X6.here hx rfl (pc0 := 10) (pc' := 23) rfl (hb hby d_jdk_33_method_22_10) rfl (XT.ii_gt_t hc7) (by decide) (by decide) kz) ?_
      show OGo p.tables e below Φ (T6.setTop (mkF m 23 #[.val (.int x1)] []))
      obtain ⟨T8, h8, X8, e8, E8, A8, D8, U8, st8⟩ := newO X6 hx hZ hown (ow42 hw) (ow43 hw) (ow38 hw) e6 (g := (mkF m 23 #[.val (.int x1)] [])) rfl (hb hby d_jdk_33_method_22_23) (by decide) (by decide)
      obtain ⟨b8, g8⟩ : ∃ z, z = h0.size := ⟨_, rfl⟩
      rw [← g8] at A8 D8 st8 U8
      have F9 := S_h.ext E8
      have F10 := S_c.ext E8
      have gb8 : n0 ≤ b8 := Nat.le_trans Z0 (Nat.le_of_eq g8.symm)
      have K8 := K0.ext E8
      have sz8 : h0.size ≤ b8 := Nat.le_trans K0.1 (Nat.le_of_eq g8.symm)
      have Zs8 : n0 ≤ h8.size := Nat.le_trans Z0 E8.1
      have F8_56 : Fld Z h8 b8 "java/lang/Integer" "value" "I" (.int (0 : Int32)) := D8 (Or.inr (ow56 hw)) (ty := .int) (by decide)
      refine OGo.st (st8) ?_
      show OGo p.tables e below Φ (T8.setTop (mkF m 26 #[.val (.int x1)] [(.ref b8)]))
      refine OGo.st (fun _ kz => XS.dup X8.here hx rfl (hb hby d_jdk_33_method_22_26) rfl rfl kz) ?_
      show OGo p.tables e below Φ (T8.setTop (mkF m 27 #[.val (.int x1)] [(.ref b8), (.ref b8)]))
      refine OGo.st (fun _ kz => XS.iloadN X8.here hx rfl (hb hby d_jdk_33_method_22_27) rfl kz) ?_
      show OGo p.tables e below Φ (T8.setTop (mkF m 28 #[.val (.int x1)] [(.int x1), (.ref b8), (.ref b8)]))
      obtain ⟨_, T11, L11, X11, hQ11, st11⟩ := own_callSp X8 hx hZ rfl hown (ow44 hw) (ow45 hw) (ow38 hw) (ow47 hw) (by decide) (rmbi l Z a0 hw [] b8 x1 (.int (0 : Int32)) h8 n0 Zs8 A8 gb8 F8_56) e8 (W := 1) (by decide) (by decide) (by decide) (by decide) (pc := 28) (ls := #[.val (.int x1)]) (stk := [(.int x1), (.ref b8), (.ref b8)]) (by rw [hml]; rfl) (a := b8) (argsL := [(.int x1)]) (rest := [(.ref b8)]) (lenOf pd1 rfl) rfl rfl (Nat.le_of_eq rfl) (hb hby d_jdk_33_method_22_28)
      obtain ⟨rfl, Nq11, Kq11, Eq11, Fq11_0⟩ := hQ11
      have N11 := Fr.app N0 Nq11
      have Zs11 : n0 ≤ T11.heap.size := Nat.le_trans Zs8 Kq11.1
      have K11 := K8.trans Kq11 (allS (Or.inr sz8) all0)
      refine OGo.st st11 ?_
      show OGo p.tables e below Φ (T11.setTop (mkF m 31 #[.val (.int x1)] [(.ref b8)]))
      refine OGo.fin X11 hlk (v := (some (.ref b8))) (fun h => by rw [hret] at h; cases h) (by decide) (by decide) (fun fs hr => X11.areturnOut hx rfl hret rfl (hb hby d_jdk_33_method_22_31) hr) fun U eU hF => hΦ _ _ _ ?_ hF
      rw [eU]
      show Q_rmbv Z x1 ac cc bv h0 n0 _ _ _
      exact ⟨_, rfl, N11, K11, Eq11⟩
    · refine OGo.st (fun _ kz => XS.icmpNo X6.here hx rfl (hb hby d_jdk_33_method_22_10) rfl (XT.ii_gt_f hc7) kz) ?_
      show OGo p.tables e below Φ (T6.setTop (mkF m 13 #[.val (.int x1)] []))
      obtain ⟨T12, X12, e12, st12⟩ := getS2 X6 hx hZ hown (host := "") (Or.inl (ow60 hw)) Via.refl e6 S_c (g := (mkF m 13 #[.val (.int x1)] [])) rfl (hb hby d_jdk_33_method_22_13)
      refine OGo.st st12 ?_
      show OGo p.tables e below Φ (T12.setTop (mkF m 16 #[.val (.int x1)] [(.ref ac)]))
      refine OGo.st (fun _ kz => XS.iloadN X12.here hx rfl (hb hby d_jdk_33_method_22_16) rfl kz) ?_
      show OGo p.tables e below Φ (T12.setTop (mkF m 17 #[.val (.int x1)] [(.int x1), (.ref ac)]))
      refine OGo.st (fun _ kz => XS.sipush X12.here hx rfl (hb hby d_jdk_33_method_22_17) kz) ?_
      show OGo p.tables e below Φ (T12.setTop (mkF m 20 #[.val (.int x1)] [(.int (128 : Int32)), (.int x1), (.ref ac)]))
      refine OGo.st (fun _ kz => XS.iadd X12.here hx rfl (hb hby d_jdk_33_method_22_20) rfl kz) ?_
      show OGo p.tables e below Φ (T12.setTop (mkF m 21 #[.val (.int x1)] [(.int (x1 + (128 : Int32))), (.ref ac)]))
      have in13 := own_bxin hc1 hc7 B_x.2.1
      obtain ⟨bq, at13, Ex13, -⟩ := B_x.2.2.2 _ in13
      have Ex := Ex13.ext O_x
      refine OGo.st (fun _ kz => X12.aaload hx (by rw [e12]; exact (B_x.1.ext O_x).1) (State.isArrayOf_alike hZ.alike B_x.1.2.1) rfl B_x.1.2.2 in13 at13 (g := (mkF m 21 #[.val (.int x1)] [(.int (x1 + (128 : Int32))), (.ref ac)])) rfl rfl (hb hby d_jdk_33_method_22_21) _ kz) ?_
      show OGo p.tables e below Φ (T12.setTop (mkF m 22 #[.val (.int x1)] [(.ref bq)]))
      refine OGo.fin X12 hlk (v := (some (.ref bq))) (fun h => by rw [hret] at h; cases h) (by decide) (by decide) (fun fs hr => X12.areturnOut hx rfl hret rfl (hb hby d_jdk_33_method_22_22) hr) fun U eU hF => hΦ _ _ _ ?_ hF
      rw [eU, e12]
      show Q_rmbv Z x1 ac cc bv h0 n0 _ _ _
      exact ⟨_, rfl, N0, K0, Ex⟩

theorem pn5 : plainName "com/example/tersewire/tersewire/ArrayTypeEqualsPinLaw" = true := by first | (simp [plainName, overriddenIn]; done) | decide +kernel
theorem pd2 : parseMethodDescriptor "(Ljava/lang/Object;)Z" = some ⟨[(.object "java/lang/Object")], some .boolean⟩ := by decide +kernel
theorem pd3 : parseMethodDescriptor "([I)V" = some ⟨[(.array .int)], none⟩ := by decide +kernel
theorem pd4 : parseMethodDescriptor "(I)Ljava/lang/Integer;" = some ⟨[.int], some (.object "java/lang/Integer")⟩ := by decide +kernel
theorem ef_rm0 (m : MethodId) (x0 : Int32) (x1 : Int32) (x2 : Int32) : entryFrame m #[(.int x0), (.int x1), (.int x2)] maxLocals = mkF m 0 #[.val (.int x0), .val (.int x1), .val (.int x2), .unset, .unset, .unset, .unset] [] := by first | (simp [entryFrame, mkF, argsToLocals, Value.category, maxLocals]; done) | rfl
def Q_rm0 (Z : State) (xa : Int32) (xb : Int32) (xs : Int32) (ac : Addr) (cc : Cell) (bv : Int32 → Value) (h0 : Heap) (n0 : Nat) (v : Option Value) (h : Heap) (L : List Loc) : Prop := v = some (.int (1 : Int32)) ∧ Fr n0 L
set_option maxRecDepth 65536 in
set_option maxHeartbeats 40000000 in
theorem rm0 (l : Launch) (Z : State) (a0 : Array Value) (hw : ∀ d ∈ tables_1, d.before a0 Z = true) (ws : List Jvm.Cond) (xa : Int32) (xb : Int32) (xs : Int32) (ac : Addr) (cc : Cell) (bv : Int32 → Value) (h0 : Heap) (n0 : Nat) (Z0 : n0 ≤ h0.size) (O_0 : Old Z n0 h0) (S_hi : Sta Z Z.heap "java/lang/Integer$IntegerCache" "high" "I" (.int (127 : Int32))) (S_ca : Sta Z Z.heap "java/lang/Integer$IntegerCache" "cache" "[Ljava/lang/Integer;" (.ref ac)) (B_x : Bxs Z ac cc "java/lang/Integer" "I" (256 : Int32) bv) :
    OCon l Z x code maxLocals ret ws room_1 #[(.int xa), (.int xb), (.int xs)] h0 (Q_rm0 Z xa xb xs ac cc bv h0 n0) := by
  refine OCon.of (plainFor_of_name pn5) ?_
  intro p e s m below meth c s₁ Φ X0 hx hby hml hown hnm hret hlk hZ e0 hΦ
  have N0 := Fr.nil n0
  refine OGo.st (fun _ kz => castTop (ef_rm0 m xa xb xs) kz) ?_
  show OGo p.tables e below Φ (s₁.setTop (mkF m 0 #[.val (.int xa), .val (.int xb), .val (.int xs), .unset, .unset, .unset, .unset] []))
  obtain ⟨T1, h1, X1, e1, E1, A1, D1, U1, st1⟩ := newO X0 hx hZ hown (ow0 hw) (ow1 hw) (ow2 hw) e0 (g := (mkF m 0 #[.val (.int xa), .val (.int xb), .val (.int xs), .unset, .unset, .unset, .unset] [])) rfl (hb hby at_0) (by decide) (by decide)
  obtain ⟨b1, g1⟩ : ∃ z, z = h0.size := ⟨_, rfl⟩
  rw [← g1] at A1 D1 st1 U1
  have F2 := O_0.ext E1
  have gb1 : n0 ≤ b1 := Nat.le_trans Z0 (Nat.le_of_eq g1.symm)
  have Zs1 : n0 ≤ h1.size := Nat.le_trans Z0 E1.1
  have F1_15 : Fld Z h1 b1 "com/example/tersewire/tersewire/ArrayType" "elementType" "I" (.int (0 : Int32)) := D1 (Or.inr (ow15 hw)) (ty := .int) (by decide)
  refine OGo.st (st1) ?_
  show OGo p.tables e below Φ (T1.setTop (mkF m 3 #[.val (.int xa), .val (.int xb), .val (.int xs), .unset, .unset, .unset, .unset] [(.ref b1)]))
  refine OGo.st (fun _ kz => XS.dup X1.here hx rfl (hb hby at_3) rfl rfl kz) ?_
  show OGo p.tables e below Φ (T1.setTop (mkF m 4 #[.val (.int xa), .val (.int xb), .val (.int xs), .unset, .unset, .unset, .unset] [(.ref b1), (.ref b1)]))
  refine OGo.st (fun _ kz => XS.iloadN X1.here hx rfl (hb hby at_4) rfl kz) ?_
  show OGo p.tables e below Φ (T1.setTop (mkF m 5 #[.val (.int xa), .val (.int xb), .val (.int xs), .unset, .unset, .unset, .unset] [(.int xa), (.ref b1), (.ref b1)]))
  obtain ⟨_, T3, L3, X3, hQ3, st3⟩ := own_callSp X1 hx hZ rfl hown (ow3 hw) (ow4 hw) (ow2 hw) (ow5 hw) (by decide) (rm2 l Z a0 hw [] b1 xa (.int (0 : Int32)) h1 n0 Zs1 A1 gb1 F1_15) e1 (W := 1) (by decide) (by decide) (by decide) (by decide) (pc := 5) (ls := #[.val (.int xa), .val (.int xb), .val (.int xs), .unset, .unset, .unset, .unset]) (stk := [(.int xa), (.ref b1), (.ref b1)]) (by rw [hml]; rfl) (a := b1) (argsL := [(.int xa)]) (rest := [(.ref b1)]) (lenOf pd1 rfl) rfl rfl (Nat.le_of_eq rfl) (hb hby at_5)
  obtain ⟨rfl, Nq3, Kq3, Eq3, Fq3_0⟩ := hQ3
  have N3 := Fr.app N0 Nq3
  have Zs3 : n0 ≤ T3.heap.size := Nat.le_trans Zs1 Kq3.1
  have F4 := F2.keep Kq3 (allS gb1 all0)
  refine OGo.st st3 ?_
  show OGo p.tables e below Φ (T3.setTop (mkF m 8 #[.val (.int xa), .val (.int xb), .val (.int xs), .unset, .unset, .unset, .unset] [(.ref b1)]))
  refine OGo.st (fun _ kz => XS.astoreN X3.here hx rfl (hb hby at_8) rfl rfl (l' := #[.val (.int xa), .val (.int xb), .val (.int xs), .val (.ref b1), .unset, .unset, .unset]) rfl kz) ?_
  show OGo p.tables e below Φ (T3.setTop (mkF m 9 #[.val (.int xa), .val (.int xb), .val (.int xs), .val (.ref b1), .unset, .unset, .unset] []))
  refine OGo.st (fun _ kz => XS.iloadN X3.here hx rfl (hb hby at_9) rfl kz) ?_
  show OGo p.tables e below Φ (T3.setTop (mkF m 10 #[.val (.int xa), .val (.int xb), .val (.int xs), .val (.ref b1), .unset, .unset, .unset] [(.int xs)]))
  refine OGo.st (fun _ kz => X3.ldcI hx hown (mvT hZ (ow16 hw)) rfl (hb hby at_10) kz) ?_
  show OGo p.tables e below Φ (T3.setTop (mkF m 12 #[.val (.int xa), .val (.int xb), .val (.int xs), .val (.ref b1), .unset, .unset, .unset] [(.int (2147483647 : Int32)), (.int xs)]))
  refine OGo.st (fun _ kz => XS.iand X3.here hx rfl (hb hby at_12) rfl kz) ?_
  show OGo p.tables e below Φ (T3.setTop (mkF m 13 #[.val (.int xa), .val (.int xb), .val (.int xs), .val (.ref b1), .unset, .unset, .unset] [(.int (xs &&& (2147483647 : Int32)))]))
  refine OGo.st (fun _ kz => XS.iconst X3.here hx rfl (hb hby at_13) kz) ?_
  show OGo p.tables e below Φ (T3.setTop (mkF m 14 #[.val (.int xa), .val (.int xb), .val (.int xs), .val (.ref b1), .unset, .unset, .unset] [(.int (5 : Int32)), (.int (xs &&& (2147483647 : Int32)))]))
  refine OGo.st (fun _ kz => iremM X3 hx rfl (hb hby at_14) rfl (by decide) kz) ?_
  show OGo p.tables e below Φ (T3.setTop (mkF m 15 #[.val (.int xa), .val (.int xb), .val (.int xs), .val (.ref b1), .unset, .unset, .unset] [(.int ((xs &&& (2147483647 : Int32)) % (5 : Int32)))]))
  refine OGo.st (fun _ kz => XS.istore X3.here hx rfl (hb hby at_15) rfl (l' := #[.val (.int xa), .val (.int xb), .val (.int xs), .val (.ref b1), .val (.int ((xs &&& (2147483647 : Int32)) % (5 : Int32))), .unset, .unset]) rfl kz) ?_
  show OGo p.tables e below Φ (T3.setTop (mkF m 17 #[.val (.int xa), .val (.int xb), .val (.int xs), .val (.ref b1), .val (.int ((xs &&& (2147483647 : Int32)) % (5 : Int32))), .unset, .unset] []))
  rcases own_mod5 xs with hk5 | hk5 | hk5 | hk5 | hk5
  · rw [hk5]
    show OGo p.tables e below Φ (T3.setTop (mkF m 17 #[.val (.int xa), .val (.int xb), .val (.int xs), .val (.ref b1), .val (.int (0 : Int32)), .unset, .unset] []))
    refine OGo.st (fun _ kz => XS.iload X3.here hx rfl (hb hby at_17) rfl kz) ?_
    show OGo p.tables e below Φ (T3.setTop (mkF m 19 #[.val (.int xa), .val (.int xb), .val (.int xs), .val (.ref b1), .val (.int (0 : Int32)), .unset, .unset] [(.int (0 : Int32))]))
    refine OGo.st (fun _ kz => XS.ifNo X3.here hx rfl (hb hby at_19) rfl (XT.i0_ne_f (by decide)) kz) ?_
    show OGo p.tables e below Φ (T3.setTop (mkF m 22 #[.val (.int xa), .val (.int xb), .val (.int xs), .val (.ref b1), .val (.int (0 : Int32)), .unset, .unset] []))
    obtain ⟨T6, h6, X6, e6, E6, A6, D6, U6, st6⟩ := newO X3 hx hZ hown (ow0 hw) (ow1 hw) (ow2 hw) rfl (g := (mkF m 22 #[.val (.int xa), .val (.int xb), .val (.int xs), .val (.ref b1), .val (.int (0 : Int32)), .unset, .unset] [])) rfl (hb hby at_22) (by decide) (by decide)
    obtain ⟨b6, g6⟩ : ∃ z, z = T3.heap.size := ⟨_, rfl⟩
    rw [← g6] at A6 D6 st6 U6
    have ne6_b1 : b1 ≠ b6 := by rw [g6]; exact Nat.ne_of_lt Eq3.lt
    have F7 := F4.ext E6
    have F8 := Eq3.ext E6
    have F9 := Fq3_0.ext E6
    have gb6 : n0 ≤ b6 := Nat.le_trans Zs3 (Nat.le_of_eq g6.symm)
    have Zs6 : n0 ≤ h6.size := Nat.le_trans Zs3 E6.1
    have F6_15 : Fld Z h6 b6 "com/example/tersewire/tersewire/ArrayType" "elementType" "I" (.int (0 : Int32)) := D6 (Or.inr (ow15 hw)) (ty := .int) (by decide)
    refine OGo.st (st6) ?_
    show OGo p.tables e below Φ (T6.setTop (mkF m 25 #[.val (.int xa), .val (.int xb), .val (.int xs), .val (.ref b1), .val (.int (0 : Int32)), .unset, .unset] [(.ref b6)]))
    refine OGo.st (fun _ kz => XS.dup X6.here hx rfl (hb hby at_25) rfl rfl kz) ?_
    show OGo p.tables e below Φ (T6.setTop (mkF m 26 #[.val (.int xa), .val (.int xb), .val (.int xs), .val (.ref b1), .val (.int (0 : Int32)), .unset, .unset] [(.ref b6), (.ref b6)]))
    refine OGo.st (fun _ kz => XS.iloadN X6.here hx rfl (hb hby at_26) rfl kz) ?_
    show OGo p.tables e below Φ (T6.setTop (mkF m 27 #[.val (.int xa), .val (.int xb), .val (.int xs), .val (.ref b1), .val (.int (0 : Int32)), .unset, .unset] [(.int xb), (.ref b6), (.ref b6)]))
    obtain ⟨_, T10, L10, X10, hQ10, st10⟩ := own_callSp X6 hx hZ rfl hown (ow3 hw) (ow4 hw) (ow2 hw) (ow5 hw) (by decide) (rm2 l Z a0 hw [] b6 xb (.int (0 : Int32)) h6 n0 Zs6 A6 gb6 F6_15) e6 (W := 1) (by decide) (by decide) (by decide) (by decide) (pc := 27) (ls := #[.val (.int xa), .val (.int xb), .val (.int xs), .val (.ref b1), .val (.int (0 : Int32)), .unset, .unset]) (stk := [(.int xb), (.ref b6), (.ref b6)]) (by rw [hml]; rfl) (a := b6) (argsL := [(.int xb)]) (rest := [(.ref b6)]) (lenOf pd1 rfl) rfl rfl (Nat.le_of_eq rfl) (hb hby at_27)
    obtain ⟨rfl, Nq10, Kq10, Eq10, Fq10_0⟩ := hQ10
    have N10 := Fr.app N3 Nq10
    have Zs10 : n0 ≤ T10.heap.size := Nat.le_trans Zs6 Kq10.1
    have F11 := F7.keep Kq10 (allS gb6 all0)
    have F12 := F8.keep Kq10
    have F13 := F9.keep Kq10 (ninS ne6_b1 nin0)
    refine OGo.st st10 ?_
    show OGo p.tables e below Φ (T10.setTop (mkF m 30 #[.val (.int xa), .val (.int xb), .val (.int xs), .val (.ref b1), .val (.int (0 : Int32)), .unset, .unset] [(.ref b6)]))
    refine OGo.st (fun _ kz => XS.astore X10.here hx rfl (hb hby at_30) rfl rfl (l' := #[.val (.int xa), .val (.int xb), .val (.int xs), .val (.ref b1), .val (.int (0 : Int32)), .val (.ref b6), .unset]) rfl kz) ?_
    show OGo p.tables e below Φ (T10.setTop (mkF m 32 #[.val (.int xa), .val (.int xb), .val (.int xs), .val (.ref b1), .val (.int (0 : Int32)), .val (.ref b6), .unset] []))
    refine OGo.st (fun _ kz => XS.iloadN X10.here hx rfl (hb hby at_32) rfl kz) ?_
    show OGo p.tables e below Φ (T10.setTop (mkF m 33 #[.val (.int xa), .val (.int xb), .val (.int xs), .val (.ref b1), .val (.int (0 : Int32)), .val (.ref b6), .unset] [(.int xa)]))
    refine OGo.st (fun _ kz => XS.iloadN X10.here hx rfl (hb hby at_33) rfl kz) ?_
    show OGo p.tables e below Φ (T10.setTop (mkF m 34 #[.val (.int xa), .val (.int xb), .val (.int xs), .val (.ref b1), .val (.int (0 : Int32)), .val (.ref b6), .unset] [(.int xb), (.int xa)]))
    by_cases hc14 : xa = xb
    · refine OGo.st (fun _ kz => XS.icmpNo X10.here hx rfl (hb hby at_34) rfl (XT.ii_ne_f hc14) kz) ?_
      show OGo p.tables e below Φ (T10.setTop (mkF m 37 #[.val (.int xa), .val (.int xb), .val (.int xs), .val (.ref b1), .val (.int (0 : Int32)), .val (.ref b6), .unset] []))
      refine OGo.st (fun _ kz => XS.iconst X10.here hx rfl (hb hby at_37) kz) ?_
      show OGo p.tables e below Φ (T10.setTop (mkF m 38 #[.val (.int xa), .val (.int xb), .val (.int xs), .val (.ref b1), .val (.int (0 : Int32)), .val (.ref b6), .unset] [(.int (1 : Int32))]))
      refine OGo.st (fun _ kz => XS.goto X10.here hx rfl (pc0 := 38) (pc' := 42) rfl (hb hby at_38) (by decide) (by decide) kz) ?_
      show OGo p.tables e below Φ (T10.setTop (mkF m 42 #[.val (.int xa), .val (.int xb), .val (.int xs), .val (.ref b1), .val (.int (0 : Int32)), .val (.ref b6), .unset] [(.int (1 : Int32))]))
      refine OGo.st (fun _ kz => XS.istore X10.here hx rfl (hb hby at_42) rfl (l' := #[.val (.int xa), .val (.int xb), .val (.int xs), .val (.ref b1), .val (.int (0 : Int32)), .val (.ref b6), .val (.int (1 : Int32))]) rfl kz) ?_
      show OGo p.tables e below Φ (T10.setTop (mkF m 44 #[.val (.int xa), .val (.int xb), .val (.int xs), .val (.ref b1), .val (.int (0 : Int32)), .val (.ref b6), .val (.int (1 : Int32))] []))
      refine OGo.st (fun _ kz => XS.aloadN X10.here hx rfl (hb hby at_44) rfl rfl kz) ?_
      show OGo p.tables e below Φ (T10.setTop (mkF m 45 #[.val (.int xa), .val (.int xb), .val (.int xs), .val (.ref b1), .val (.int (0 : Int32)), .val (.ref b6), .val (.int (1 : Int32))] [(.ref b1)]))
      refine OGo.st (fun _ kz => XS.aload X10.here hx rfl (hb hby at_45) rfl rfl kz) ?_
      show OGo p.tables e below Φ (T10.setTop (mkF m 47 #[.val (.int xa), .val (.int xb), .val (.int xs), .val (.ref b1), .val (.int (0 : Int32)), .val (.ref b6), .val (.int (1 : Int32))] [(.ref b6), (.ref b1)]))
      obtain ⟨_, T15, L15, X15, hQ15, st15⟩ := own_callVi X10 hx hZ hown (ow17 hw) (ow18 hw) (notFace_of_selects (args := #[]) (mvT hZ (ow20 hw))) (ow20 hw) (ow19 hw) (ow2 hw) (ow21 hw) (by decide) (rm4a l Z a0 hw [] b1 b6 xa xb T10.heap n0 Zs10 F13 Fq10_0 Eq10) rfl (W := 0) (by decide) (by decide) (by decide) (by decide) F12 (pc := 47) (ls := #[.val (.int xa), .val (.int xb), .val (.int xs), .val (.ref b1), .val (.int (0 : Int32)), .val (.ref b6), .val (.int (1 : Int32))]) (stk := [(.ref b6), (.ref b1)]) (by rw [hml]; rfl) (argsL := [(.ref b6)]) (rest := []) (lenOf pd2 rfl) rfl rfl (Nat.le_of_eq rfl) (hb hby at_47)
      obtain ⟨rfl, Nq15, e15⟩ := hQ15
      have N15 := Fr.app N10 Nq15
      refine OGo.st st15 ?_
      show OGo p.tables e below Φ (T15.setTop (mkF m 50 #[.val (.int xa), .val (.int xb), .val (.int xs), .val (.ref b1), .val (.int (0 : Int32)), .val (.ref b6), .val (.int (1 : Int32))] [(.int (own_eqv xa xb))]))
      refine OGo.st (fun _ kz => XS.iload X15.here hx rfl (hb hby at_50) rfl kz) ?_
      show OGo p.tables e below Φ (T15.setTop (mkF m 52 #[.val (.int xa), .val (.int xb), .val (.int xs), .val (.ref b1), .val (.int (0 : Int32)), .val (.ref b6), .val (.int (1 : Int32))] [(.int (1 : Int32)), (.int (own_eqv xa xb))]))
      by_cases hc16 : (own_eqv xa xb) = (1 : Int32)
      · refine OGo.st (fun _ kz => XS.icmpNo X15.here hx rfl (hb hby at_52) rfl (XT.ii_ne_f hc16) kz) ?_
        show OGo p.tables e below Φ (T15.setTop (mkF m 55 #[.val (.int xa), .val (.int xb), .val (.int xs), .val (.ref b1), .val (.int (0 : Int32)), .val (.ref b6), .val (.int (1 : Int32))] []))
        refine OGo.st (fun _ kz => XS.aload X15.here hx rfl (hb hby at_55) rfl rfl kz) ?_
        show OGo p.tables e below Φ (T15.setTop (mkF m 57 #[.val (.int xa), .val (.int xb), .val (.int xs), .val (.ref b1), .val (.int (0 : Int32)), .val (.ref b6), .val (.int (1 : Int32))] [(.ref b6)]))
        refine OGo.st (fun _ kz => XS.aloadN X15.here hx rfl (hb hby at_57) rfl rfl kz) ?_
        show OGo p.tables e below Φ (T15.setTop (mkF m 58 #[.val (.int xa), .val (.int xb), .val (.int xs), .val (.ref b1), .val (.int (0 : Int32)), .val (.ref b6), .val (.int (1 : Int32))] [(.ref b1), (.ref b6)]))
        obtain ⟨_, T17, L17, X17, hQ17, st17⟩ := own_callVi X15 hx hZ hown (ow17 hw) (ow18 hw) (notFace_of_selects (args := #[]) (mvT hZ (ow20 hw))) (ow20 hw) (ow19 hw) (ow2 hw) (ow21 hw) (by decide) (rm4a l Z a0 hw [] b6 b1 xb xa T10.heap n0 Zs10 Fq10_0 F13 F12) e15 (W := 0) (by decide) (by decide) (by decide) (by decide) Eq10 (pc := 58) (ls := #[.val (.int xa), .val (.int xb), .val (.int xs), .val (.ref b1), .val (.int (0 : Int32)), .val (.ref b6), .val (.int (1 : Int32))]) (stk := [(.ref b1), (.ref b6)]) (by rw [hml]; rfl) (argsL := [(.ref b1)]) (rest := []) (lenOf pd2 rfl) rfl rfl (Nat.le_of_eq rfl) (hb hby at_58)
        obtain ⟨rfl, Nq17, e17⟩ := hQ17
        have N17 := Fr.app N15 Nq17
        refine OGo.st st17 ?_
        show OGo p.tables e below Φ (T17.setTop (mkF m 61 #[.val (.int xa), .val (.int xb), .val (.int xs), .val (.ref b1), .val (.int (0 : Int32)), .val (.ref b6), .val (.int (1 : Int32))] [(.int (own_eqv xb xa))]))
        refine OGo.st (fun _ kz => XS.iload X17.here hx rfl (hb hby at_61) rfl kz) ?_
        show OGo p.tables e below Φ (T17.setTop (mkF m 63 #[.val (.int xa), .val (.int xb), .val (.int xs), .val (.ref b1), .val (.int (0 : Int32)), .val (.ref b6), .val (.int (1 : Int32))] [(.int (1 : Int32)), (.int (own_eqv xb xa))]))
        by_cases hc18 : (own_eqv xb xa) = (1 : Int32)
        · refine OGo.st (fun _ kz => XS.icmpNo X17.here hx rfl (hb hby at_63) rfl (XT.ii_ne_f hc18) kz) ?_
          show OGo p.tables e below Φ (T17.setTop (mkF m 66 #[.val (.int xa), .val (.int xb), .val (.int xs), .val (.ref b1), .val (.int (0 : Int32)), .val (.ref b6), .val (.int (1 : Int32))] []))
          refine OGo.st (fun _ kz => XS.iconst X17.here hx rfl (hb hby at_66) kz) ?_
          show OGo p.tables e below Φ (T17.setTop (mkF m 67 #[.val (.int xa), .val (.int xb), .val (.int xs), .val (.ref b1), .val (.int (0 : Int32)), .val (.ref b6), .val (.int (1 : Int32))] [(.int (1 : Int32))]))
          refine OGo.st (fun _ kz => XS.goto X17.here hx rfl (pc0 := 67) (pc' := 71) rfl (hb hby at_67) (by decide) (by decide) kz) ?_
          show OGo p.tables e below Φ (T17.setTop (mkF m 71 #[.val (.int xa), .val (.int xb), .val (.int xs), .val (.ref b1), .val (.int (0 : Int32)), .val (.ref b6), .val (.int (1 : Int32))] [(.int (1 : Int32))]))
          refine OGo.fin X17 hlk (v := (some (.int (1 : Int32)))) (fun h => by rw [hret] at h; cases h) (by decide) (by decide) (fun fs hr => X17.ireturnOut hx hret rfl (by simp) (hb hby at_71) hr) fun U eU hF => hΦ _ _ _ ?_ hF
          rw [eU, e17]
          show Q_rm0 Z xa xb xs ac cc bv h0 n0 _ _ _
          exact ⟨rfl, N17⟩
        · refine OGo.st (fun _ kz => XS.icmpYes X17.here hx rfl (pc0 := 63) (pc' := 70) rfl (hb hby at_63) rfl (XT.ii_ne_t hc18) (by decide) (by decide) kz) ?_
          show OGo p.tables e below Φ (T17.setTop (mkF m 70 #[.val (.int xa), .val (.int xb), .val (.int xs), .val (.ref b1), .val (.int (0 : Int32)), .val (.ref b6), .val (.int (1 : Int32))] []))
          refine OGo.st (fun _ kz => XS.iconst X17.here hx rfl (hb hby at_70) kz) ?_
          show OGo p.tables e below Φ (T17.setTop (mkF m 71 #[.val (.int xa), .val (.int xb), .val (.int xs), .val (.ref b1), .val (.int (0 : Int32)), .val (.ref b6), .val (.int (1 : Int32))] [(.int (0 : Int32))]))
          first | exact absurd hc18 (own_eqv_r _) | exact absurd (own_eqv_t hc14) hc18 | exact absurd (own_eqv_f hc14) hc18 | exact absurd (own_eqv_t' hc14) hc18 | exact absurd (own_eqv_f' hc14) hc18
      · refine OGo.st (fun _ kz => XS.icmpYes X15.here hx rfl (pc0 := 52) (pc' := 70) rfl (hb hby at_52) rfl (XT.ii_ne_t hc16) (by decide) (by decide) kz) ?_
        show OGo p.tables e below Φ (T15.setTop (mkF m 70 #[.val (.int xa), .val (.int xb), .val (.int xs), .val (.ref b1), .val (.int (0 : Int32)), .val (.ref b6), .val (.int (1 : Int32))] []))
        refine OGo.st (fun _ kz => XS.iconst X15.here hx rfl (hb hby at_70) kz) ?_
        show OGo p.tables e below Φ (T15.setTop (mkF m 71 #[.val (.int xa), .val (.int xb), .val (.int xs), .val (.ref b1), .val (.int (0 : Int32)), .val (.ref b6), .val (.int (1 : Int32))] [(.int (0 : Int32))]))
        first | exact absurd hc16 (own_eqv_r _) | exact absurd (own_eqv_t hc14) hc16 | exact absurd (own_eqv_f hc14) hc16 | exact absurd (own_eqv_t' hc14) hc16 | exact absurd (own_eqv_f' hc14) hc16
    · refine OGo.st (fun _ kz => XS.icmpYes X10.here hx rfl (pc0 := 34) (pc' := 41) rfl (hb hby at_34) rfl (XT.ii_ne_t hc14) (by decide) (by decide) kz) ?_
      show OGo p.tables e below Φ (T10.setTop (mkF m 41 #[.val (.int xa), .val (.int xb), .val (.int xs), .val (.ref b1), .val (.int (0 : Int32)), .val (.ref b6), .unset] []))
      refine OGo.st (fun _ kz => XS.iconst X10.here hx rfl (hb hby at_41) kz) ?_
      show OGo p.tables e below Φ (T10.setTop (mkF m 42 #[.val (.int xa), .val (.int xb), .val (.int xs), .val (.ref b1), .val (.int (0 : Int32)), .val (.ref b6), .unset] [(.int (0 : Int32))]))
      refine OGo.st (fun _ kz => XS.istore X10.here hx rfl (hb hby at_42) rfl (l' := #[.val (.int xa), .val (.int xb), .val (.int xs), .val (.ref b1), .val (.int (0 : Int32)), .val (.ref b6), .val (.int (0 : Int32))]) rfl kz) ?_
      show OGo p.tables e below Φ (T10.setTop (mkF m 44 #[.val (.int xa), .val (.int xb), .val (.int xs), .val (.ref b1), .val (.int (0 : Int32)), .val (.ref b6), .val (.int (0 : Int32))] []))
      refine OGo.st (fun _ kz => XS.aloadN X10.here hx rfl (hb hby at_44) rfl rfl kz) ?_
      show OGo p.tables e below Φ (T10.setTop (mkF m 45 #[.val (.int xa), .val (.int xb), .val (.int xs), .val (.ref b1), .val (.int (0 : Int32)), .val (.ref b6), .val (.int (0 : Int32))] [(.ref b1)]))
      refine OGo.st (fun _ kz => XS.aload X10.here hx rfl (hb hby at_45) rfl rfl kz) ?_
      show OGo p.tables e below Φ (T10.setTop (mkF m 47 #[.val (.int xa), .val (.int xb), .val (.int xs), .val (.ref b1), .val (.int (0 : Int32)), .val (.ref b6), .val (.int (0 : Int32))] [(.ref b6), (.ref b1)]))
      obtain ⟨_, T19, L19, X19, hQ19, st19⟩ := own_callVi X10 hx hZ hown (ow17 hw) (ow18 hw) (notFace_of_selects (args := #[]) (mvT hZ (ow20 hw))) (ow20 hw) (ow19 hw) (ow2 hw) (ow21 hw) (by decide) (rm4a l Z a0 hw [] b1 b6 xa xb T10.heap n0 Zs10 F13 Fq10_0 Eq10) rfl (W := 0) (by decide) (by decide) (by decide) (by decide) F12 (pc := 47) (ls := #[.val (.int xa), .val (.int xb), .val (.int xs), .val (.ref b1), .val (.int (0 : Int32)), .val (.ref b6), .val (.int (0 : Int32))]) (stk := [(.ref b6), (.ref b1)]) (by rw [hml]; rfl) (argsL := [(.ref b6)]) (rest := []) (lenOf pd2 rfl) rfl rfl (Nat.le_of_eq rfl) (hb hby at_47)
      obtain ⟨rfl, Nq19, e19⟩ := hQ19
      have N19 := Fr.app N10 Nq19
      refine OGo.st st19 ?_
      show OGo p.tables e below Φ (T19.setTop (mkF m 50 #[.val (.int xa), .val (.int xb), .val (.int xs), .val (.ref b1), .val (.int (0 : Int32)), .val (.ref b6), .val (.int (0 : Int32))] [(.int (own_eqv xa xb))]))
      refine OGo.st (fun _ kz => XS.iload X19.here hx rfl (hb hby at_50) rfl kz) ?_
      show OGo p.tables e below Φ (T19.setTop (mkF m 52 #[.val (.int xa), .val (.int xb), .val (.int xs), .val (.ref b1), .val (.int (0 : Int32)), .val (.ref b6), .val (.int (0 : Int32))] [(.int (0 : Int32)), (.int (own_eqv xa xb))]))
      by_cases hc20 : (own_eqv xa xb) = (0 : Int32)
      · refine OGo.st (fun _ kz => XS.icmpNo X19.here hx rfl (hb hby at_52) rfl (XT.ii_ne_f hc20) kz) ?_
        show OGo p.tables e below Φ (T19.setTop (mkF m 55 #[.val (.int xa), .val (.int xb), .val (.int xs), .val (.ref b1), .val (.int (0 : Int32)), .val (.ref b6), .val (.int (0 : Int32))] []))
        refine OGo.st (fun _ kz => XS.aload X19.here hx rfl (hb hby at_55) rfl rfl kz) ?_
        show OGo p.tables e below Φ (T19.setTop (mkF m 57 #[.val (.int xa), .val (.int xb), .val (.int xs), .val (.ref b1), .val (.int (0 : Int32)), .val (.ref b6), .val (.int (0 : Int32))] [(.ref b6)]))
        refine OGo.st (fun _ kz => XS.aloadN X19.here hx rfl (hb hby at_57) rfl rfl kz) ?_
        show OGo p.tables e below Φ (T19.setTop (mkF m 58 #[.val (.int xa), .val (.int xb), .val (.int xs), .val (.ref b1), .val (.int (0 : Int32)), .val (.ref b6), .val (.int (0 : Int32))] [(.ref b1), (.ref b6)]))
        obtain ⟨_, T21, L21, X21, hQ21, st21⟩ := own_callVi X19 hx hZ hown (ow17 hw) (ow18 hw) (notFace_of_selects (args := #[]) (mvT hZ (ow20 hw))) (ow20 hw) (ow19 hw) (ow2 hw) (ow21 hw) (by decide) (rm4a l Z a0 hw [] b6 b1 xb xa T10.heap n0 Zs10 Fq10_0 F13 F12) e19 (W := 0) (by decide) (by decide) (by decide) (by decide) Eq10 (pc := 58) (ls := #[.val (.int xa), .val (.int xb), .val (.int xs), .val (.ref b1), .val (.int (0 : Int32)), .val (.ref b6), .val (.int (0 : Int32))]) (stk := [(.ref b1), (.ref b6)]) (by rw [hml]; rfl) (argsL := [(.ref b1)]) (rest := []) (lenOf pd2 rfl) rfl rfl (Nat.le_of_eq rfl) (hb hby at_58)
        obtain ⟨rfl, Nq21, e21⟩ := hQ21
        have N21 := Fr.app N19 Nq21
        refine OGo.st st21 ?_
        show OGo p.tables e below Φ (T21.setTop (mkF m 61 #[.val (.int xa), .val (.int xb), .val (.int xs), .val (.ref b1), .val (.int (0 : Int32)), .val (.ref b6), .val (.int (0 : Int32))] [(.int (own_eqv xb xa))]))
        refine OGo.st (fun _ kz => XS.iload X21.here hx rfl (hb hby at_61) rfl kz) ?_
        show OGo p.tables e below Φ (T21.setTop (mkF m 63 #[.val (.int xa), .val (.int xb), .val (.int xs), .val (.ref b1), .val (.int (0 : Int32)), .val (.ref b6), .val (.int (0 : Int32))] [(.int (0 : Int32)), (.int (own_eqv xb xa))]))
        by_cases hc22 : (own_eqv xb xa) = (0 : Int32)
        · refine OGo.st (fun _ kz => XS.icmpNo X21.here hx rfl (hb hby at_63) rfl (XT.ii_ne_f hc22) kz) ?_
          show OGo p.tables e below Φ (T21.setTop (mkF m 66 #[.val (.int xa), .val (.int xb), .val (.int xs), .val (.ref b1), .val (.int (0 : Int32)), .val (.ref b6), .val (.int (0 : Int32))] []))
          refine OGo.st (fun _ kz => XS.iconst X21.here hx rfl (hb hby at_66) kz) ?_
          show OGo p.tables e below Φ (T21.setTop (mkF m 67 #[.val (.int xa), .val (.int xb), .val (.int xs), .val (.ref b1), .val (.int (0 : Int32)), .val (.ref b6), .val (.int (0 : Int32))] [(.int (1 : Int32))]))
          refine OGo.st (fun _ kz => XS.goto X21.here hx rfl (pc0 := 67) (pc' := 71) rfl (hb hby at_67) (by decide) (by decide) kz) ?_
          show OGo p.tables e below Φ (T21.setTop (mkF m 71 #[.val (.int xa), .val (.int xb), .val (.int xs), .val (.ref b1), .val (.int (0 : Int32)), .val (.ref b6), .val (.int (0 : Int32))] [(.int (1 : Int32))]))
          refine OGo.fin X21 hlk (v := (some (.int (1 : Int32)))) (fun h => by rw [hret] at h; cases h) (by decide) (by decide) (fun fs hr => X21.ireturnOut hx hret rfl (by simp) (hb hby at_71) hr) fun U eU hF => hΦ _ _ _ ?_ hF
          rw [eU, e21]
          show Q_rm0 Z xa xb xs ac cc bv h0 n0 _ _ _
          exact ⟨rfl, N21⟩
        · refine OGo.st (fun _ kz => XS.icmpYes X21.here hx rfl (pc0 := 63) (pc' := 70) rfl (hb hby at_63) rfl (XT.ii_ne_t hc22) (by decide) (by decide) kz) ?_
          show OGo p.tables e below Φ (T21.setTop (mkF m 70 #[.val (.int xa), .val (.int xb), .val (.int xs), .val (.ref b1), .val (.int (0 : Int32)), .val (.ref b6), .val (.int (0 : Int32))] []))
          refine OGo.st (fun _ kz => XS.iconst X21.here hx rfl (hb hby at_70) kz) ?_
          show OGo p.tables e below Φ (T21.setTop (mkF m 71 #[.val (.int xa), .val (.int xb), .val (.int xs), .val (.ref b1), .val (.int (0 : Int32)), .val (.ref b6), .val (.int (0 : Int32))] [(.int (0 : Int32))]))
          first | exact absurd hc22 (own_eqv_r _) | exact absurd (own_eqv_t hc14) hc22 | exact absurd (own_eqv_f hc14) hc22 | exact absurd (own_eqv_t' hc14) hc22 | exact absurd (own_eqv_f' hc14) hc22
      · refine OGo.st (fun _ kz => XS.icmpYes X19.here hx rfl (pc0 := 52) (pc' := 70) rfl (hb hby at_52) rfl (XT.ii_ne_t hc20) (by decide) (by decide) kz) ?_
        show OGo p.tables e below Φ (T19.setTop (mkF m 70 #[.val (.int xa), .val (.int xb), .val (.int xs), .val (.ref b1), .val (.int (0 : Int32)), .val (.ref b6), .val (.int (0 : Int32))] []))
        refine OGo.st (fun _ kz => XS.iconst X19.here hx rfl (hb hby at_70) kz) ?_
        show OGo p.tables e below Φ (T19.setTop (mkF m 71 #[.val (.int xa), .val (.int xb), .val (.int xs), .val (.ref b1), .val (.int (0 : Int32)), .val (.ref b6), .val (.int (0 : Int32))] [(.int (0 : Int32))]))
        first | exact absurd hc20 (own_eqv_r _) | exact absurd (own_eqv_t hc14) hc20 | exact absurd (own_eqv_f hc14) hc20 | exact absurd (own_eqv_t' hc14) hc20 | exact absurd (own_eqv_f' hc14) hc20
  · rw [hk5]
    show OGo p.tables e below Φ (T3.setTop (mkF m 17 #[.val (.int xa), .val (.int xb), .val (.int xs), .val (.ref b1), .val (.int (1 : Int32)), .unset, .unset] []))
    refine OGo.st (fun _ kz => XS.iload X3.here hx rfl (hb hby at_17) rfl kz) ?_
    show OGo p.tables e below Φ (T3.setTop (mkF m 19 #[.val (.int xa), .val (.int xb), .val (.int xs), .val (.ref b1), .val (.int (1 : Int32)), .unset, .unset] [(.int (1 : Int32))]))
    refine OGo.st (fun _ kz => XS.ifYes X3.here hx rfl (pc0 := 19) (pc' := 72) rfl (hb hby at_19) rfl (XT.i0_ne_t (by decide)) (by decide) (by decide) kz) ?_
    show OGo p.tables e below Φ (T3.setTop (mkF m 72 #[.val (.int xa), .val (.int xb), .val (.int xs), .val (.ref b1), .val (.int (1 : Int32)), .unset, .unset] []))
    refine OGo.st (fun _ kz => XS.iload X3.here hx rfl (hb hby at_72) rfl kz) ?_
    show OGo p.tables e below Φ (T3.setTop (mkF m 74 #[.val (.int xa), .val (.int xb), .val (.int xs), .val (.ref b1), .val (.int (1 : Int32)), .unset, .unset] [(.int (1 : Int32))]))
    refine OGo.st (fun _ kz => XS.iconst X3.here hx rfl (hb hby at_74) kz) ?_
    show OGo p.tables e below Φ (T3.setTop (mkF m 75 #[.val (.int xa), .val (.int xb), .val (.int xs), .val (.ref b1), .val (.int (1 : Int32)), .unset, .unset] [(.int (1 : Int32)), (.int (1 : Int32))]))
    refine OGo.st (fun _ kz => XS.icmpNo X3.here hx rfl (hb hby at_75) rfl (XT.ii_ne_f (by decide)) kz) ?_
    show OGo p.tables e below Φ (T3.setTop (mkF m 78 #[.val (.int xa), .val (.int xb), .val (.int xs), .val (.ref b1), .val (.int (1 : Int32)), .unset, .unset] []))
    obtain ⟨T23, h23, X23, e23, E23, A23, D23, U23, st23⟩ := newO X3 hx hZ hown (ow0 hw) (ow1 hw) (ow2 hw) rfl (g := (mkF m 78 #[.val (.int xa), .val (.int xb), .val (.int xs), .val (.ref b1), .val (.int (1 : Int32)), .unset, .unset] [])) rfl (hb hby at_78) (by decide) (by decide)
    obtain ⟨b23, g23⟩ : ∃ z, z = T3.heap.size := ⟨_, rfl⟩
    rw [← g23] at A23 D23 st23 U23
    have ne23_b1 : b1 ≠ b23 := by rw [g23]; exact Nat.ne_of_lt Eq3.lt
    have F24 := F4.ext E23
    have F25 := Eq3.ext E23
    have F26 := Fq3_0.ext E23
    have gb23 : n0 ≤ b23 := Nat.le_trans Zs3 (Nat.le_of_eq g23.symm)
    have Zs23 : n0 ≤ h23.size := Nat.le_trans Zs3 E23.1
    have F23_15 : Fld Z h23 b23 "com/example/tersewire/tersewire/ArrayType" "elementType" "I" (.int (0 : Int32)) := D23 (Or.inr (ow15 hw)) (ty := .int) (by decide)
    refine OGo.st (st23) ?_
    show OGo p.tables e below Φ (T23.setTop (mkF m 81 #[.val (.int xa), .val (.int xb), .val (.int xs), .val (.ref b1), .val (.int (1 : Int32)), .unset, .unset] [(.ref b23)]))
    refine OGo.st (fun _ kz => XS.dup X23.here hx rfl (hb hby at_81) rfl rfl kz) ?_
    show OGo p.tables e below Φ (T23.setTop (mkF m 82 #[.val (.int xa), .val (.int xb), .val (.int xs), .val (.ref b1), .val (.int (1 : Int32)), .unset, .unset] [(.ref b23), (.ref b23)]))
    refine OGo.st (fun _ kz => XS.iloadN X23.here hx rfl (hb hby at_82) rfl kz) ?_
    show OGo p.tables e below Φ (T23.setTop (mkF m 83 #[.val (.int xa), .val (.int xb), .val (.int xs), .val (.ref b1), .val (.int (1 : Int32)), .unset, .unset] [(.int xa), (.ref b23), (.ref b23)]))
    obtain ⟨_, T27, L27, X27, hQ27, st27⟩ := own_callSp X23 hx hZ rfl hown (ow3 hw) (ow4 hw) (ow2 hw) (ow5 hw) (by decide) (rm2 l Z a0 hw [] b23 xa (.int (0 : Int32)) h23 n0 Zs23 A23 gb23 F23_15) e23 (W := 1) (by decide) (by decide) (by decide) (by decide) (pc := 83) (ls := #[.val (.int xa), .val (.int xb), .val (.int xs), .val (.ref b1), .val (.int (1 : Int32)), .unset, .unset]) (stk := [(.int xa), (.ref b23), (.ref b23)]) (by rw [hml]; rfl) (a := b23) (argsL := [(.int xa)]) (rest := [(.ref b23)]) (lenOf pd1 rfl) rfl rfl (Nat.le_of_eq rfl) (hb hby at_83)
    obtain ⟨rfl, Nq27, Kq27, Eq27, Fq27_0⟩ := hQ27
    have N27 := Fr.app N3 Nq27
    have Zs27 : n0 ≤ T27.heap.size := Nat.le_trans Zs23 Kq27.1
    have F28 := F24.keep Kq27 (allS gb23 all0)
    have F29 := F25.keep Kq27
    have F30 := F26.keep Kq27 (ninS ne23_b1 nin0)
    refine OGo.st st27 ?_
    show OGo p.tables e below Φ (T27.setTop (mkF m 86 #[.val (.int xa), .val (.int xb), .val (.int xs), .val (.ref b1), .val (.int (1 : Int32)), .unset, .unset] [(.ref b23)]))
    refine OGo.st (fun _ kz => XS.astore X27.here hx rfl (hb hby at_86) rfl rfl (l' := #[.val (.int xa), .val (.int xb), .val (.int xs), .val (.ref b1), .val (.int (1 : Int32)), .val (.ref b23), .unset]) rfl kz) ?_
    show OGo p.tables e below Φ (T27.setTop (mkF m 88 #[.val (.int xa), .val (.int xb), .val (.int xs), .val (.ref b1), .val (.int (1 : Int32)), .val (.ref b23), .unset] []))
    refine OGo.st (fun _ kz => XS.aloadN X27.here hx rfl (hb hby at_88) rfl rfl kz) ?_
    show OGo p.tables e below Φ (T27.setTop (mkF m 89 #[.val (.int xa), .val (.int xb), .val (.int xs), .val (.ref b1), .val (.int (1 : Int32)), .val (.ref b23), .unset] [(.ref b1)]))
    refine OGo.st (fun _ kz => XS.aload X27.here hx rfl (hb hby at_89) rfl rfl kz) ?_
    show OGo p.tables e below Φ (T27.setTop (mkF m 91 #[.val (.int xa), .val (.int xb), .val (.int xs), .val (.ref b1), .val (.int (1 : Int32)), .val (.ref b23), .unset] [(.ref b23), (.ref b1)]))
    obtain ⟨_, T31, L31, X31, hQ31, st31⟩ := own_callVi X27 hx hZ hown (ow17 hw) (ow18 hw) (notFace_of_selects (args := #[]) (mvT hZ (ow20 hw))) (ow20 hw) (ow19 hw) (ow2 hw) (ow21 hw) (by decide) (rm4a l Z a0 hw [] b1 b23 xa xa T27.heap n0 Zs27 F30 Fq27_0 Eq27) rfl (W := 0) (by decide) (by decide) (by decide) (by decide) F29 (pc := 91) (ls := #[.val (.int xa), .val (.int xb), .val (.int xs), .val (.ref b1), .val (.int (1 : Int32)), .val (.ref b23), .unset]) (stk := [(.ref b23), (.ref b1)]) (by rw [hml]; rfl) (argsL := [(.ref b23)]) (rest := []) (lenOf pd2 rfl) rfl rfl (Nat.le_of_eq rfl) (hb hby at_91)
    obtain ⟨rfl, Nq31, e31⟩ := hQ31
    have N31 := Fr.app N27 Nq31
    refine OGo.st st31 ?_
    show OGo p.tables e below Φ (T31.setTop (mkF m 94 #[.val (.int xa), .val (.int xb), .val (.int xs), .val (.ref b1), .val (.int (1 : Int32)), .val (.ref b23), .unset] [(.int (own_eqv xa xa))]))
    by_cases hc32 : (own_eqv xa xa) = 0
    · refine OGo.st (fun _ kz => XS.ifYes X31.here hx rfl (pc0 := 94) (pc' := 118) rfl (hb hby at_94) rfl (XT.i0_eq_t hc32) (by decide) (by decide) kz) ?_
      show OGo p.tables e below Φ (T31.setTop (mkF m 118 #[.val (.int xa), .val (.int xb), .val (.int xs), .val (.ref b1), .val (.int (1 : Int32)), .val (.ref b23), .unset] []))
      refine OGo.st (fun _ kz => XS.iconst X31.here hx rfl (hb hby at_118) kz) ?_
      show OGo p.tables e below Φ (T31.setTop (mkF m 119 #[.val (.int xa), .val (.int xb), .val (.int xs), .val (.ref b1), .val (.int (1 : Int32)), .val (.ref b23), .unset] [(.int (0 : Int32))]))
      first | exact absurd hc32 (own_eqv_r _) | exact absurd (own_eqv_t trivial) hc32 | exact absurd (own_eqv_f trivial) hc32 | exact absurd (own_eqv_t' trivial) hc32 | exact absurd (own_eqv_f' trivial) hc32
    · refine OGo.st (fun _ kz => XS.ifNo X31.here hx rfl (hb hby at_94) rfl (XT.i0_eq_f hc32) kz) ?_
      show OGo p.tables e below Φ (T31.setTop (mkF m 97 #[.val (.int xa), .val (.int xb), .val (.int xs), .val (.ref b1), .val (.int (1 : Int32)), .val (.ref b23), .unset] []))
      refine OGo.st (fun _ kz => XS.aload X31.here hx rfl (hb hby at_97) rfl rfl kz) ?_
      show OGo p.tables e below Φ (T31.setTop (mkF m 99 #[.val (.int xa), .val (.int xb), .val (.int xs), .val (.ref b1), .val (.int (1 : Int32)), .val (.ref b23), .unset] [(.ref b23)]))
      refine OGo.st (fun _ kz => XS.aloadN X31.here hx rfl (hb hby at_99) rfl rfl kz) ?_
      show OGo p.tables e below Φ (T31.setTop (mkF m 100 #[.val (.int xa), .val (.int xb), .val (.int xs), .val (.ref b1), .val (.int (1 : Int32)), .val (.ref b23), .unset] [(.ref b1), (.ref b23)]))
      obtain ⟨_, T33, L33, X33, hQ33, st33⟩ := own_callVi X31 hx hZ hown (ow17 hw) (ow18 hw) (notFace_of_selects (args := #[]) (mvT hZ (ow20 hw))) (ow20 hw) (ow19 hw) (ow2 hw) (ow21 hw) (by decide) (rm4a l Z a0 hw [] b23 b1 xa xa T27.heap n0 Zs27 Fq27_0 F30 F29) e31 (W := 0) (by decide) (by decide) (by decide) (by decide) Eq27 (pc := 100) (ls := #[.val (.int xa), .val (.int xb), .val (.int xs), .val (.ref b1), .val (.int (1 : Int32)), .val (.ref b23), .unset]) (stk := [(.ref b1), (.ref b23)]) (by rw [hml]; rfl) (argsL := [(.ref b1)]) (rest := []) (lenOf pd2 rfl) rfl rfl (Nat.le_of_eq rfl) (hb hby at_100)
      obtain ⟨rfl, Nq33, e33⟩ := hQ33
      have N33 := Fr.app N31 Nq33
      refine OGo.st st33 ?_
      show OGo p.tables e below Φ (T33.setTop (mkF m 103 #[.val (.int xa), .val (.int xb), .val (.int xs), .val (.ref b1), .val (.int (1 : Int32)), .val (.ref b23), .unset] [(.int (own_eqv xa xa))]))
      refine OGo.st (fun _ kz => XS.ifNo X33.here hx rfl (hb hby at_103) rfl (XT.i0_eq_f hc32) kz) ?_
      show OGo p.tables e below Φ (T33.setTop (mkF m 106 #[.val (.int xa), .val (.int xb), .val (.int xs), .val (.ref b1), .val (.int (1 : Int32)), .val (.ref b23), .unset] []))
      refine OGo.st (fun _ kz => XS.aloadN X33.here hx rfl (hb hby at_106) rfl rfl kz) ?_
      show OGo p.tables e below Φ (T33.setTop (mkF m 107 #[.val (.int xa), .val (.int xb), .val (.int xs), .val (.ref b1), .val (.int (1 : Int32)), .val (.ref b23), .unset] [(.ref b1)]))
      refine OGo.st (fun _ kz => XS.aloadN X33.here hx rfl (hb hby at_107) rfl rfl kz) ?_
      show OGo p.tables e below Φ (T33.setTop (mkF m 108 #[.val (.int xa), .val (.int xb), .val (.int xs), .val (.ref b1), .val (.int (1 : Int32)), .val (.ref b23), .unset] [(.ref b1), (.ref b1)]))
      obtain ⟨_, T34, L34, X34, hQ34, st34⟩ := own_callVi X33 hx hZ hown (ow17 hw) (ow18 hw) (notFace_of_selects (args := #[]) (mvT hZ (ow20 hw))) (ow20 hw) (ow19 hw) (ow2 hw) (ow21 hw) (by decide) (rm4a l Z a0 hw [] b1 b1 xa xa T27.heap n0 Zs27 F30 F30 F29) e33 (W := 0) (by decide) (by decide) (by decide) (by decide) F29 (pc := 108) (ls := #[.val (.int xa), .val (.int xb), .val (.int xs), .val (.ref b1), .val (.int (1 : Int32)), .val (.ref b23), .unset]) (stk := [(.ref b1), (.ref b1)]) (by rw [hml]; rfl) (argsL := [(.ref b1)]) (rest := []) (lenOf pd2 rfl) rfl rfl (Nat.le_of_eq rfl) (hb hby at_108)
      obtain ⟨rfl, Nq34, e34⟩ := hQ34
      have N34 := Fr.app N33 Nq34
      refine OGo.st st34 ?_
      show OGo p.tables e below Φ (T34.setTop (mkF m 111 #[.val (.int xa), .val (.int xb), .val (.int xs), .val (.ref b1), .val (.int (1 : Int32)), .val (.ref b23), .unset] [(.int (own_eqv xa xa))]))
      refine OGo.st (fun _ kz => XS.ifNo X34.here hx rfl (hb hby at_111) rfl (XT.i0_eq_f hc32) kz) ?_
      show OGo p.tables e below Φ (T34.setTop (mkF m 114 #[.val (.int xa), .val (.int xb), .val (.int xs), .val (.ref b1), .val (.int (1 : Int32)), .val (.ref b23), .unset] []))
      refine OGo.st (fun _ kz => XS.iconst X34.here hx rfl (hb hby at_114) kz) ?_
      show OGo p.tables e below Φ (T34.setTop (mkF m 115 #[.val (.int xa), .val (.int xb), .val (.int xs), .val (.ref b1), .val (.int (1 : Int32)), .val (.ref b23), .unset] [(.int (1 : Int32))]))
      refine OGo.st (fun _ kz => XS.goto X34.here hx rfl (pc0 := 115) (pc' := 119) rfl (hb hby at_115) (by decide) (by decide) kz) ?_
      show OGo p.tables e below Φ (T34.setTop (mkF m 119 #[.val (.int xa), .val (.int xb), .val (.int xs), .val (.ref b1), .val (.int (1 : Int32)), .val (.ref b23), .unset] [(.int (1 : Int32))]))
      refine OGo.fin X34 hlk (v := (some (.int (1 : Int32)))) (fun h => by rw [hret] at h; cases h) (by decide) (by decide) (fun fs hr => X34.ireturnOut hx hret rfl (by simp) (hb hby at_119) hr) fun U eU hF => hΦ _ _ _ ?_ hF
      rw [eU, e34]
      show Q_rm0 Z xa xb xs ac cc bv h0 n0 _ _ _
      exact ⟨rfl, N34⟩
  · rw [hk5]
    show OGo p.tables e below Φ (T3.setTop (mkF m 17 #[.val (.int xa), .val (.int xb), .val (.int xs), .val (.ref b1), .val (.int (2 : Int32)), .unset, .unset] []))
    refine OGo.st (fun _ kz => XS.iload X3.here hx rfl (hb hby at_17) rfl kz) ?_
    show OGo p.tables e below Φ (T3.setTop (mkF m 19 #[.val (.int xa), .val (.int xb), .val (.int xs), .val (.ref b1), .val (.int (2 : Int32)), .unset, .unset] [(.int (2 : Int32))]))
    refine OGo.st (fun _ kz => XS.ifYes X3.here hx rfl (pc0 := 19) (pc' := 72) rfl (hb hby at_19) rfl (XT.i0_ne_t (by decide)) (by decide) (by decide) kz) ?_
    show OGo p.tables e below Φ (T3.setTop (mkF m 72 #[.val (.int xa), .val (.int xb), .val (.int xs), .val (.ref b1), .val (.int (2 : Int32)), .unset, .unset] []))
    refine OGo.st (fun _ kz => XS.iload X3.here hx rfl (hb hby at_72) rfl kz) ?_
    show OGo p.tables e below Φ (T3.setTop (mkF m 74 #[.val (.int xa), .val (.int xb), .val (.int xs), .val (.ref b1), .val (.int (2 : Int32)), .unset, .unset] [(.int (2 : Int32))]))
    refine OGo.st (fun _ kz => XS.iconst X3.here hx rfl (hb hby at_74) kz) ?_
    show OGo p.tables e below Φ (T3.setTop (mkF m 75 #[.val (.int xa), .val (.int xb), .val (.int xs), .val (.ref b1), .val (.int (2 : Int32)), .unset, .unset] [(.int (1 : Int32)), (.int (2 : Int32))]))
    refine OGo.st (fun _ kz => XS.icmpYes X3.here hx rfl (pc0 := 75) (pc' := 120) rfl (hb hby at_75) rfl (XT.ii_ne_t (by decide)) (by decide) (by decide) kz) ?_
    show OGo p.tables e below Φ (T3.setTop (mkF m 120 #[.val (.int xa), .val (.int xb), .val (.int xs), .val (.ref b1), .val (.int (2 : Int32)), .unset, .unset] []))
    refine OGo.st (fun _ kz => XS.iload X3.here hx rfl (hb hby at_120) rfl kz) ?_
    show OGo p.tables e below Φ (T3.setTop (mkF m 122 #[.val (.int xa), .val (.int xb), .val (.int xs), .val (.ref b1), .val (.int (2 : Int32)), .unset, .unset] [(.int (2 : Int32))]))
    refine OGo.st (fun _ kz => XS.iconst X3.here hx rfl (hb hby at_122) kz) ?_
    show OGo p.tables e below Φ (T3.setTop (mkF m 123 #[.val (.int xa), .val (.int xb), .val (.int xs), .val (.ref b1), .val (.int (2 : Int32)), .unset, .unset] [(.int (2 : Int32)), (.int (2 : Int32))]))
    refine OGo.st (fun _ kz => XS.icmpNo X3.here hx rfl (hb hby at_123) rfl (XT.ii_ne_f (by decide)) kz) ?_
    show OGo p.tables e below Φ (T3.setTop (mkF m 126 #[.val (.int xa), .val (.int xb), .val (.int xs), .val (.ref b1), .val (.int (2 : Int32)), .unset, .unset] []))
    refine OGo.st (fun _ kz => XS.aloadN X3.here hx rfl (hb hby at_126) rfl rfl kz) ?_
    show OGo p.tables e below Φ (T3.setTop (mkF m 127 #[.val (.int xa), .val (.int xb), .val (.int xs), .val (.ref b1), .val (.int (2 : Int32)), .unset, .unset] [(.ref b1)]))
    refine OGo.st (fun _ kz => XS.aconstNull X3.here hx rfl (hb hby at_127) kz) ?_
    show OGo p.tables e below Φ (T3.setTop (mkF m 128 #[.val (.int xa), .val (.int xb), .val (.int xs), .val (.ref b1), .val (.int (2 : Int32)), .unset, .unset] [.null, (.ref b1)]))
    obtain ⟨_, T35, L35, X35, hQ35, st35⟩ := own_callVi X3 hx hZ hown (ow17 hw) (ow18 hw) (notFace_of_selects (args := #[]) (mvT hZ (ow20 hw))) (ow20 hw) (ow19 hw) (ow2 hw) (ow21 hw) (by decide) (rm4n l Z a0 hw [] b1 T3.heap n0 Zs3 ) rfl (W := 0) (by decide) (by decide) (by decide) (by decide) Eq3 (pc := 128) (ls := #[.val (.int xa), .val (.int xb), .val (.int xs), .val (.ref b1), .val (.int (2 : Int32)), .unset, .unset]) (stk := [.null, (.ref b1)]) (by rw [hml]; rfl) (argsL := [.null]) (rest := []) (lenOf pd2 rfl) rfl rfl (Nat.le_of_eq rfl) (hb hby at_128)
    obtain ⟨rfl, Nq35, e35⟩ := hQ35
    have N35 := Fr.app N3 Nq35
    refine OGo.st st35 ?_
    show OGo p.tables e below Φ (T35.setTop (mkF m 131 #[.val (.int xa), .val (.int xb), .val (.int xs), .val (.ref b1), .val (.int (2 : Int32)), .unset, .unset] [(.int (0 : Int32))]))
    refine OGo.st (fun _ kz => XS.ifNo X35.here hx rfl (hb hby at_131) rfl (XT.i0_ne_f (by decide)) kz) ?_
    show OGo p.tables e below Φ (T35.setTop (mkF m 134 #[.val (.int xa), .val (.int xb), .val (.int xs), .val (.ref b1), .val (.int (2 : Int32)), .unset, .unset] []))
    refine OGo.st (fun _ kz => XS.iconst X35.here hx rfl (hb hby at_134) kz) ?_
    show OGo p.tables e below Φ (T35.setTop (mkF m 135 #[.val (.int xa), .val (.int xb), .val (.int xs), .val (.ref b1), .val (.int (2 : Int32)), .unset, .unset] [(.int (1 : Int32))]))
    refine OGo.st (fun _ kz => XS.goto X35.here hx rfl (pc0 := 135) (pc' := 139) rfl (hb hby at_135) (by decide) (by decide) kz) ?_
    show OGo p.tables e below Φ (T35.setTop (mkF m 139 #[.val (.int xa), .val (.int xb), .val (.int xs), .val (.ref b1), .val (.int (2 : Int32)), .unset, .unset] [(.int (1 : Int32))]))
    refine OGo.fin X35 hlk (v := (some (.int (1 : Int32)))) (fun h => by rw [hret] at h; cases h) (by decide) (by decide) (fun fs hr => X35.ireturnOut hx hret rfl (by simp) (hb hby at_139) hr) fun U eU hF => hΦ _ _ _ ?_ hF
    rw [eU, e35]
    show Q_rm0 Z xa xb xs ac cc bv h0 n0 _ _ _
    exact ⟨rfl, N35⟩
  · rw [hk5]
    show OGo p.tables e below Φ (T3.setTop (mkF m 17 #[.val (.int xa), .val (.int xb), .val (.int xs), .val (.ref b1), .val (.int (3 : Int32)), .unset, .unset] []))
    refine OGo.st (fun _ kz => XS.iload X3.here hx rfl (hb hby at_17) rfl kz) ?_
    show OGo p.tables e below Φ (T3.setTop (mkF m 19 #[.val (.int xa), .val (.int xb), .val (.int xs), .val (.ref b1), .val (.int (3 : Int32)), .unset, .unset] [(.int (3 : Int32))]))
    refine OGo.st (fun _ kz => XS.ifYes X3.here hx rfl (pc0 := 19) (pc' := 72) rfl (hb hby at_19) rfl (XT.i0_ne_t (by decide)) (by decide) (by decide) kz) ?_
    show OGo p.tables e below Φ (T3.setTop (mkF m 72 #[.val (.int xa), .val (.int xb), .val (.int xs), .val (.ref b1), .val (.int (3 : Int32)), .unset, .unset] []))
    refine OGo.st (fun _ kz => XS.iload X3.here hx rfl (hb hby at_72) rfl kz) ?_
    show OGo p.tables e below Φ (T3.setTop (mkF m 74 #[.val (.int xa), .val (.int xb), .val (.int xs), .val (.ref b1), .val (.int (3 : Int32)), .unset, .unset] [(.int (3 : Int32))]))
    refine OGo.st (fun _ kz => XS.iconst X3.here hx rfl (hb hby at_74) kz) ?_
    show OGo p.tables e below Φ (T3.setTop (mkF m 75 #[.val (.int xa), .val (.int xb), .val (.int xs), .val (.ref b1), .val (.int (3 : Int32)), .unset, .unset] [(.int (1 : Int32)), (.int (3 : Int32))]))
    refine OGo.st (fun _ kz => XS.icmpYes X3.here hx rfl (pc0 := 75) (pc' := 120) rfl (hb hby at_75) rfl (XT.ii_ne_t (by decide)) (by decide) (by decide) kz) ?_
    show OGo p.tables e below Φ (T3.setTop (mkF m 120 #[.val (.int xa), .val (.int xb), .val (.int xs), .val (.ref b1), .val (.int (3 : Int32)), .unset, .unset] []))
    refine OGo.st (fun _ kz => XS.iload X3.here hx rfl (hb hby at_120) rfl kz) ?_
    show OGo p.tables e below Φ (T3.setTop (mkF m 122 #[.val (.int xa), .val (.int xb), .val (.int xs), .val (.ref b1), .val (.int (3 : Int32)), .unset, .unset] [(.int (3 : Int32))]))
    refine OGo.st (fun _ kz => XS.iconst X3.here hx rfl (hb hby at_122) kz) ?_
    show OGo p.tables e below Φ (T3.setTop (mkF m 123 #[.val (.int xa), .val (.int xb), .val (.int xs), .val (.ref b1), .val (.int (3 : Int32)), .unset, .unset] [(.int (2 : Int32)), (.int (3 : Int32))]))
    refine OGo.st (fun _ kz => XS.icmpYes X3.here hx rfl (pc0 := 123) (pc' := 140) rfl (hb hby at_123) rfl (XT.ii_ne_t (by decide)) (by decide) (by decide) kz) ?_
    show OGo p.tables e below Φ (T3.setTop (mkF m 140 #[.val (.int xa), .val (.int xb), .val (.int xs), .val (.ref b1), .val (.int (3 : Int32)), .unset, .unset] []))
    refine OGo.st (fun _ kz => XS.iload X3.here hx rfl (hb hby at_140) rfl kz) ?_
    show OGo p.tables e below Φ (T3.setTop (mkF m 142 #[.val (.int xa), .val (.int xb), .val (.int xs), .val (.ref b1), .val (.int (3 : Int32)), .unset, .unset] [(.int (3 : Int32))]))
    refine OGo.st (fun _ kz => XS.iconst X3.here hx rfl (hb hby at_142) kz) ?_
    show OGo p.tables e below Φ (T3.setTop (mkF m 143 #[.val (.int xa), .val (.int xb), .val (.int xs), .val (.ref b1), .val (.int (3 : Int32)), .unset, .unset] [(.int (3 : Int32)), (.int (3 : Int32))]))
    refine OGo.st (fun _ kz => XS.icmpNo X3.here hx rfl (hb hby at_143) rfl (XT.ii_ne_f (by decide)) kz) ?_
    show OGo p.tables e below Φ (T3.setTop (mkF m 146 #[.val (.int xa), .val (.int xb), .val (.int xs), .val (.ref b1), .val (.int (3 : Int32)), .unset, .unset] []))
    refine OGo.st (fun _ kz => XS.iconst X3.here hx rfl (hb hby at_146) kz) ?_
    show OGo p.tables e below Φ (T3.setTop (mkF m 147 #[.val (.int xa), .val (.int xb), .val (.int xs), .val (.ref b1), .val (.int (3 : Int32)), .unset, .unset] [(.int (1 : Int32))]))
    obtain ⟨T36, h36, c36, X36, e36, E36, Ar36, st36⟩ := newP (aty := .int) X3 hx hZ (ow22 hw) rfl (g := (mkF m 147 #[.val (.int xa), .val (.int xb), .val (.int xs), .val (.ref b1), .val (.int (3 : Int32)), .unset, .unset] [(.int (1 : Int32))])) rfl (hb hby at_147) rfl (by decide) (cap := 1) (by decide) (by decide) (by decide) (by decide)
    obtain ⟨b36, g36⟩ : ∃ z, z = T3.heap.size := ⟨_, rfl⟩
    rw [← g36] at Ar36 st36
    have ne36_b1 : b1 ≠ b36 := by rw [g36]; exact Nat.ne_of_lt Eq3.lt
    have F37 := F4.ext E36
    have F38 := Eq3.ext E36
    have F39 := Fq3_0.ext E36
    have gb36 : n0 ≤ b36 := Nat.le_trans Zs3 (Nat.le_of_eq g36.symm)
    have Zs36 : n0 ≤ h36.size := Nat.le_trans Zs3 E36.1
    have V36 : Arv Z h36 b36 c36 .int (1 : Int32) [(.int (0 : Int32))] (.int (0 : Int32)) := (Arv.new Ar36 (by decide)).pad (pad_rep [] _ 1)
    refine OGo.st st36 ?_
    show OGo p.tables e below Φ (T36.setTop (mkF m 149 #[.val (.int xa), .val (.int xb), .val (.int xs), .val (.ref b1), .val (.int (3 : Int32)), .unset, .unset] [(.ref b36)]))
    refine OGo.st (fun _ kz => XS.astore X36.here hx rfl (hb hby at_149) rfl rfl (l' := #[.val (.int xa), .val (.int xb), .val (.int xs), .val (.ref b1), .val (.int (3 : Int32)), .val (.ref b36), .unset]) rfl kz) ?_
    show OGo p.tables e below Φ (T36.setTop (mkF m 151 #[.val (.int xa), .val (.int xb), .val (.int xs), .val (.ref b1), .val (.int (3 : Int32)), .val (.ref b36), .unset] []))
    refine OGo.st (fun _ kz => XS.aload X36.here hx rfl (hb hby at_151) rfl rfl kz) ?_
    show OGo p.tables e below Φ (T36.setTop (mkF m 153 #[.val (.int xa), .val (.int xb), .val (.int xs), .val (.ref b1), .val (.int (3 : Int32)), .val (.ref b36), .unset] [(.ref b36)]))
    refine OGo.st (fun _ kz => XS.iconst X36.here hx rfl (hb hby at_153) kz) ?_
    show OGo p.tables e below Φ (T36.setTop (mkF m 154 #[.val (.int xa), .val (.int xb), .val (.int xs), .val (.ref b1), .val (.int (3 : Int32)), .val (.ref b36), .unset] [(.int (0 : Int32)), (.ref b36)]))
    refine OGo.st (fun _ kz => XS.iloadN X36.here hx rfl (hb hby at_154) rfl kz) ?_
    show OGo p.tables e below Φ (T36.setTop (mkF m 155 #[.val (.int xa), .val (.int xb), .val (.int xs), .val (.ref b1), .val (.int (3 : Int32)), .val (.ref b36), .unset] [(.int xa), (.int (0 : Int32)), (.ref b36)]))
    obtain ⟨cl40, Aq40, Cq40, S40, M40, H40, G40⟩ := id V36
    have in40 : ¬ ((0 : Int32) < 0 ∨ cl40.slots.size ≤ (0 : Int32).toNatClampNeg) := inb_of S40 ⟨by decide, by decide⟩
    obtain ⟨T40, h40, X40, e40, W40, st40⟩ := stI X36 hx hZ e36 Aq40 in40 (g := (mkF m 155 #[.val (.int xa), .val (.int xb), .val (.int xs), .val (.ref b1), .val (.int (3 : Int32)), .val (.ref b36), .unset] [(.int xa), (.int (0 : Int32)), (.ref b36)])) rfl rfl (hb hby at_155)
    have F41 := F37.wr W40 gb36
    have F42 := F38.wr W40
    have F43 := F39.other W40 (Or.inl ne36_b1)
    have V40 : Arv Z h40 b36 c36 .int (1 : Int32) [(.int xa)] (.int (0 : Int32)) := Arv.set Aq40 Cq40 S40 M40 H40 G40 rfl W40 0 (by decide) (by show 0 < 1; decide)
    have N40 := Fr.snoc X40 N3 gb36
    have Zs40 : n0 ≤ h40.size := by rw [W40.size]; exact Zs36
    refine OGo.st st40 ?_
    show OGo p.tables e below Φ (T40.setTop (mkF m 156 #[.val (.int xa), .val (.int xb), .val (.int xs), .val (.ref b1), .val (.int (3 : Int32)), .val (.ref b36), .unset] []))
    obtain ⟨T44, h44, X44, e44, E44, A44, D44, U44, st44⟩ := newO X40 hx hZ hown (ow23 hw) (ow24 hw) (ow25 hw) e40 (g := (mkF m 156 #[.val (.int xa), .val (.int xb), .val (.int xs), .val (.ref b1), .val (.int (3 : Int32)), .val (.ref b36), .unset] [])) rfl (hb hby at_156) (by decide) (by decide)
    obtain ⟨b44, g44⟩ : ∃ z, z = h40.size := ⟨_, rfl⟩
    rw [← g44] at A44 D44 st44 U44
    have ne44_b1 : b1 ≠ b44 := by rw [g44]; exact Nat.ne_of_lt F42.lt
    have ne44_b36 : b36 ≠ b44 := by rw [g44]; exact Nat.ne_of_lt V40.lt
    have F45 := F41.ext E44
    have F46 := F42.ext E44
    have F47 := F43.ext E44
    have F48 := V40.ext E44
    have gb44 : n0 ≤ b44 := Nat.le_trans Zs40 (Nat.le_of_eq g44.symm)
    have Zs44 : n0 ≤ h44.size := Nat.le_trans Zs40 E44.1
    have F44_31 : Fld Z h44 b44 "com/example/tersewire/tersewire/UnionType" "members" "[I" .null := D44 (Or.inr (ow31 hw)) (ty := (.array .int)) (by decide)
    refine OGo.st (st44) ?_
    show OGo p.tables e below Φ (T44.setTop (mkF m 159 #[.val (.int xa), .val (.int xb), .val (.int xs), .val (.ref b1), .val (.int (3 : Int32)), .val (.ref b36), .unset] [(.ref b44)]))
    refine OGo.st (fun _ kz => XS.dup X44.here hx rfl (hb hby at_159) rfl rfl kz) ?_
    show OGo p.tables e below Φ (T44.setTop (mkF m 160 #[.val (.int xa), .val (.int xb), .val (.int xs), .val (.ref b1), .val (.int (3 : Int32)), .val (.ref b36), .unset] [(.ref b44), (.ref b44)]))
    refine OGo.st (fun _ kz => XS.aload X44.here hx rfl (hb hby at_160) rfl rfl kz) ?_
    show OGo p.tables e below Φ (T44.setTop (mkF m 162 #[.val (.int xa), .val (.int xb), .val (.int xs), .val (.ref b1), .val (.int (3 : Int32)), .val (.ref b36), .unset] [(.ref b36), (.ref b44), (.ref b44)]))
    obtain ⟨_, T49, L49, X49, hQ49, st49⟩ := own_callSp X44 hx hZ rfl hown (ow26 hw) (ow27 hw) (ow25 hw) (ow28 hw) (by decide) (rm3 l Z a0 hw [] b44 b36 .null h44 n0 Zs44 A44 gb44 F44_31) e44 (W := 1) (by decide) (by decide) (by decide) (by decide) (pc := 162) (ls := #[.val (.int xa), .val (.int xb), .val (.int xs), .val (.ref b1), .val (.int (3 : Int32)), .val (.ref b36), .unset]) (stk := [(.ref b36), (.ref b44), (.ref b44)]) (by rw [hml]; rfl) (a := b44) (argsL := [(.ref b36)]) (rest := [(.ref b44)]) (lenOf pd3 rfl) rfl rfl (Nat.le_of_eq rfl) (hb hby at_162)
    obtain ⟨rfl, Nq49, Kq49, Eq49, Fq49_0⟩ := hQ49
    have N49 := Fr.app N40 Nq49
    have Zs49 : n0 ≤ T49.heap.size := Nat.le_trans Zs44 Kq49.1
    have F50 := F45.keep Kq49 (allS gb44 all0)
    have F51 := F46.keep Kq49
    have F52 := F47.keep Kq49 (ninS ne44_b1 nin0)
    have F53 := F48.keep Kq49 (ninS ne44_b36 nin0)
    refine OGo.st st49 ?_
    show OGo p.tables e below Φ (T49.setTop (mkF m 165 #[.val (.int xa), .val (.int xb), .val (.int xs), .val (.ref b1), .val (.int (3 : Int32)), .val (.ref b36), .unset] [(.ref b44)]))
    refine OGo.st (fun _ kz => XS.astore X49.here hx rfl (hb hby at_165) rfl rfl (l' := #[.val (.int xa), .val (.int xb), .val (.int xs), .val (.ref b1), .val (.int (3 : Int32)), .val (.ref b36), .val (.ref b44)]) rfl kz) ?_
    show OGo p.tables e below Φ (T49.setTop (mkF m 167 #[.val (.int xa), .val (.int xb), .val (.int xs), .val (.ref b1), .val (.int (3 : Int32)), .val (.ref b36), .val (.ref b44)] []))
    refine OGo.st (fun _ kz => XS.aloadN X49.here hx rfl (hb hby at_167) rfl rfl kz) ?_
    show OGo p.tables e below Φ (T49.setTop (mkF m 168 #[.val (.int xa), .val (.int xb), .val (.int xs), .val (.ref b1), .val (.int (3 : Int32)), .val (.ref b36), .val (.ref b44)] [(.ref b1)]))
    refine OGo.st (fun _ kz => XS.aload X49.here hx rfl (hb hby at_168) rfl rfl kz) ?_
    show OGo p.tables e below Φ (T49.setTop (mkF m 170 #[.val (.int xa), .val (.int xb), .val (.int xs), .val (.ref b1), .val (.int (3 : Int32)), .val (.ref b36), .val (.ref b44)] [(.ref b44), (.ref b1)]))
    obtain ⟨_, T54, L54, X54, hQ54, st54⟩ := own_callVi X49 hx hZ hown (ow17 hw) (ow18 hw) (notFace_of_selects (args := #[]) (mvT hZ (ow20 hw))) (ow20 hw) (ow19 hw) (ow2 hw) (ow21 hw) (by decide) (rm4u l Z a0 hw [] b1 b44 T49.heap n0 Zs49 Eq49) rfl (W := 0) (by decide) (by decide) (by decide) (by decide) F51 (pc := 170) (ls := #[.val (.int xa), .val (.int xb), .val (.int xs), .val (.ref b1), .val (.int (3 : Int32)), .val (.ref b36), .val (.ref b44)]) (stk := [(.ref b44), (.ref b1)]) (by rw [hml]; rfl) (argsL := [(.ref b44)]) (rest := []) (lenOf pd2 rfl) rfl rfl (Nat.le_of_eq rfl) (hb hby at_170)
    obtain ⟨rfl, Nq54, e54⟩ := hQ54
    have N54 := Fr.app N49 Nq54
    refine OGo.st st54 ?_
    show OGo p.tables e below Φ (T54.setTop (mkF m 173 #[.val (.int xa), .val (.int xb), .val (.int xs), .val (.ref b1), .val (.int (3 : Int32)), .val (.ref b36), .val (.ref b44)] [(.int (0 : Int32))]))
    refine OGo.st (fun _ kz => XS.ifNo X54.here hx rfl (hb hby at_173) rfl (XT.i0_ne_f (by decide)) kz) ?_
    show OGo p.tables e below Φ (T54.setTop (mkF m 176 #[.val (.int xa), .val (.int xb), .val (.int xs), .val (.ref b1), .val (.int (3 : Int32)), .val (.ref b36), .val (.ref b44)] []))
    refine OGo.st (fun _ kz => XS.iconst X54.here hx rfl (hb hby at_176) kz) ?_
    show OGo p.tables e below Φ (T54.setTop (mkF m 177 #[.val (.int xa), .val (.int xb), .val (.int xs), .val (.ref b1), .val (.int (3 : Int32)), .val (.ref b36), .val (.ref b44)] [(.int (1 : Int32))]))
    refine OGo.st (fun _ kz => XS.goto X54.here hx rfl (pc0 := 177) (pc' := 181) rfl (hb hby at_177) (by decide) (by decide) kz) ?_
    show OGo p.tables e below Φ (T54.setTop (mkF m 181 #[.val (.int xa), .val (.int xb), .val (.int xs), .val (.ref b1), .val (.int (3 : Int32)), .val (.ref b36), .val (.ref b44)] [(.int (1 : Int32))]))
    refine OGo.fin X54 hlk (v := (some (.int (1 : Int32)))) (fun h => by rw [hret] at h; cases h) (by decide) (by decide) (fun fs hr => X54.ireturnOut hx hret rfl (by simp) (hb hby at_181) hr) fun U eU hF => hΦ _ _ _ ?_ hF
    rw [eU, e54]
    show Q_rm0 Z xa xb xs ac cc bv h0 n0 _ _ _
    exact ⟨rfl, N54⟩
  · rw [hk5]
    show OGo p.tables e below Φ (T3.setTop (mkF m 17 #[.val (.int xa), .val (.int xb), .val (.int xs), .val (.ref b1), .val (.int (4 : Int32)), .unset, .unset] []))
    refine OGo.st (fun _ kz => XS.iload X3.here hx rfl (hb hby at_17) rfl kz) ?_
    show OGo p.tables e below Φ (T3.setTop (mkF m 19 #[.val (.int xa), .val (.int xb), .val (.int xs), .val (.ref b1), .val (.int (4 : Int32)), .unset, .unset] [(.int (4 : Int32))]))
    refine OGo.st (fun _ kz => XS.ifYes X3.here hx rfl (pc0 := 19) (pc' := 72) rfl (hb hby at_19) rfl (XT.i0_ne_t (by decide)) (by decide) (by decide) kz) ?_
    show OGo p.tables e below Φ (T3.setTop (mkF m 72 #[.val (.int xa), .val (.int xb), .val (.int xs), .val (.ref b1), .val (.int (4 : Int32)), .unset, .unset] []))
    refine OGo.st (fun _ kz => XS.iload X3.here hx rfl (hb hby at_72) rfl kz) ?_
    show OGo p.tables e below Φ (T3.setTop (mkF m 74 #[.val (.int xa), .val (.int xb), .val (.int xs), .val (.ref b1), .val (.int (4 : Int32)), .unset, .unset] [(.int (4 : Int32))]))
    refine OGo.st (fun _ kz => XS.iconst X3.here hx rfl (hb hby at_74) kz) ?_
    show OGo p.tables e below Φ (T3.setTop (mkF m 75 #[.val (.int xa), .val (.int xb), .val (.int xs), .val (.ref b1), .val (.int (4 : Int32)), .unset, .unset] [(.int (1 : Int32)), (.int (4 : Int32))]))
    refine OGo.st (fun _ kz => XS.icmpYes X3.here hx rfl (pc0 := 75) (pc' := 120) rfl (hb hby at_75) rfl (XT.ii_ne_t (by decide)) (by decide) (by decide) kz) ?_
    show OGo p.tables e below Φ (T3.setTop (mkF m 120 #[.val (.int xa), .val (.int xb), .val (.int xs), .val (.ref b1), .val (.int (4 : Int32)), .unset, .unset] []))
    refine OGo.st (fun _ kz => XS.iload X3.here hx rfl (hb hby at_120) rfl kz) ?_
    show OGo p.tables e below Φ (T3.setTop (mkF m 122 #[.val (.int xa), .val (.int xb), .val (.int xs), .val (.ref b1), .val (.int (4 : Int32)), .unset, .unset] [(.int (4 : Int32))]))
    refine OGo.st (fun _ kz => XS.iconst X3.here hx rfl (hb hby at_122) kz) ?_
    show OGo p.tables e below Φ (T3.setTop (mkF m 123 #[.val (.int xa), .val (.int xb), .val (.int xs), .val (.ref b1), .val (.int (4 : Int32)), .unset, .unset] [(.int (2 : Int32)), (.int (4 : Int32))]))
    refine OGo.st (fun _ kz => XS.icmpYes X3.here hx rfl (pc0 := 123) (pc' := 140) rfl (hb hby at_123) rfl (XT.ii_ne_t (by decide)) (by decide) (by decide) kz) ?_
    show OGo p.tables e below Φ (T3.setTop (mkF m 140 #[.val (.int xa), .val (.int xb), .val (.int xs), .val (.ref b1), .val (.int (4 : Int32)), .unset, .unset] []))
    refine OGo.st (fun _ kz => XS.iload X3.here hx rfl (hb hby at_140) rfl kz) ?_
    show OGo p.tables e below Φ (T3.setTop (mkF m 142 #[.val (.int xa), .val (.int xb), .val (.int xs), .val (.ref b1), .val (.int (4 : Int32)), .unset, .unset] [(.int (4 : Int32))]))
    refine OGo.st (fun _ kz => XS.iconst X3.here hx rfl (hb hby at_142) kz) ?_
    show OGo p.tables e below Φ (T3.setTop (mkF m 143 #[.val (.int xa), .val (.int xb), .val (.int xs), .val (.ref b1), .val (.int (4 : Int32)), .unset, .unset] [(.int (3 : Int32)), (.int (4 : Int32))]))
    refine OGo.st (fun _ kz => XS.icmpYes X3.here hx rfl (pc0 := 143) (pc' := 182) rfl (hb hby at_143) rfl (XT.ii_ne_t (by decide)) (by decide) (by decide) kz) ?_
    show OGo p.tables e below Φ (T3.setTop (mkF m 182 #[.val (.int xa), .val (.int xb), .val (.int xs), .val (.ref b1), .val (.int (4 : Int32)), .unset, .unset] []))
    refine OGo.st (fun _ kz => XS.iloadN X3.here hx rfl (hb hby at_182) rfl kz) ?_
    show OGo p.tables e below Φ (T3.setTop (mkF m 183 #[.val (.int xa), .val (.int xb), .val (.int xs), .val (.ref b1), .val (.int (4 : Int32)), .unset, .unset] [(.int xa)]))
    obtain ⟨_, T55, L55, X55, hQ55, st55⟩ := own_callSt X3 hx hZ hown (ow36 hw) (ow37 hw) (ow38 hw) (ow39 hw) (by decide) (rmbv l Z a0 hw [] xa ac cc bv T3.heap n0 Zs3 (S_hi.ext F4.2) (S_ca.ext F4.2) F4.2 B_x) rfl (W := 0) (by decide) (by decide) (by decide) (by decide) (pc := 183) (ls := #[.val (.int xa), .val (.int xb), .val (.int xs), .val (.ref b1), .val (.int (4 : Int32)), .unset, .unset]) (stk := [(.int xa)]) (by rw [hml]; rfl) (argsL := [(.int xa)]) (rest := []) (lenOf pd4 rfl) rfl rfl (Nat.le_of_eq rfl) (hb hby at_183)
    obtain ⟨bx55, rfl, Nq55, Kq55, Eq55⟩ := hQ55
    have N55 := Fr.app N3 Nq55
    have Zs55 : n0 ≤ T55.heap.size := Nat.le_trans Zs3 Kq55.1
    have F56 := F4.keep Kq55 all0
    have F57 := Eq3.keep Kq55
    have F58 := Fq3_0.keep Kq55 nin0
    refine OGo.st st55 ?_
    show OGo p.tables e below Φ (T55.setTop (mkF m 186 #[.val (.int xa), .val (.int xb), .val (.int xs), .val (.ref b1), .val (.int (4 : Int32)), .unset, .unset] [(.ref bx55)]))
    refine OGo.st (fun _ kz => XS.astore X55.here hx rfl (hb hby at_186) rfl rfl (l' := #[.val (.int xa), .val (.int xb), .val (.int xs), .val (.ref b1), .val (.int (4 : Int32)), .val (.ref bx55), .unset]) rfl kz) ?_
    show OGo p.tables e below Φ (T55.setTop (mkF m 188 #[.val (.int xa), .val (.int xb), .val (.int xs), .val (.ref b1), .val (.int (4 : Int32)), .val (.ref bx55), .unset] []))
    refine OGo.st (fun _ kz => XS.aloadN X55.here hx rfl (hb hby at_188) rfl rfl kz) ?_
    show OGo p.tables e below Φ (T55.setTop (mkF m 189 #[.val (.int xa), .val (.int xb), .val (.int xs), .val (.ref b1), .val (.int (4 : Int32)), .val (.ref bx55), .unset] [(.ref b1)]))
    refine OGo.st (fun _ kz => XS.aload X55.here hx rfl (hb hby at_189) rfl rfl kz) ?_
    show OGo p.tables e below Φ (T55.setTop (mkF m 191 #[.val (.int xa), .val (.int xb), .val (.int xs), .val (.ref b1), .val (.int (4 : Int32)), .val (.ref bx55), .unset] [(.ref bx55), (.ref b1)]))
    obtain ⟨_, T59, L59, X59, hQ59, st59⟩ := own_callVi X55 hx hZ hown (ow17 hw) (ow18 hw) (notFace_of_selects (args := #[]) (mvT hZ (ow20 hw))) (ow20 hw) (ow19 hw) (ow2 hw) (ow21 hw) (by decide) (rm4i l Z a0 hw [] b1 bx55 T55.heap n0 Zs55 Eq55) rfl (W := 0) (by decide) (by decide) (by decide) (by decide) F57 (pc := 191) (ls := #[.val (.int xa), .val (.int xb), .val (.int xs), .val (.ref b1), .val (.int (4 : Int32)), .val (.ref bx55), .unset]) (stk := [(.ref bx55), (.ref b1)]) (by rw [hml]; rfl) (argsL := [(.ref bx55)]) (rest := []) (lenOf pd2 rfl) rfl rfl (Nat.le_of_eq rfl) (hb hby at_191)
    obtain ⟨rfl, Nq59, e59⟩ := hQ59
    have N59 := Fr.app N55 Nq59
    refine OGo.st st59 ?_
    show OGo p.tables e below Φ (T59.setTop (mkF m 194 #[.val (.int xa), .val (.int xb), .val (.int xs), .val (.ref b1), .val (.int (4 : Int32)), .val (.ref bx55), .unset] [(.int (0 : Int32))]))
    refine OGo.st (fun _ kz => XS.ifNo X59.here hx rfl (hb hby at_194) rfl (XT.i0_ne_f (by decide)) kz) ?_
    show OGo p.tables e below Φ (T59.setTop (mkF m 197 #[.val (.int xa), .val (.int xb), .val (.int xs), .val (.ref b1), .val (.int (4 : Int32)), .val (.ref bx55), .unset] []))
    refine OGo.st (fun _ kz => XS.iconst X59.here hx rfl (hb hby at_197) kz) ?_
    show OGo p.tables e below Φ (T59.setTop (mkF m 198 #[.val (.int xa), .val (.int xb), .val (.int xs), .val (.ref b1), .val (.int (4 : Int32)), .val (.ref bx55), .unset] [(.int (1 : Int32))]))
    refine OGo.st (fun _ kz => XS.goto X59.here hx rfl (pc0 := 198) (pc' := 202) rfl (hb hby at_198) (by decide) (by decide) kz) ?_
    show OGo p.tables e below Φ (T59.setTop (mkF m 202 #[.val (.int xa), .val (.int xb), .val (.int xs), .val (.ref b1), .val (.int (4 : Int32)), .val (.ref bx55), .unset] [(.int (1 : Int32))]))
    refine OGo.fin X59 hlk (v := (some (.int (1 : Int32)))) (fun h => by rw [hret] at h; cases h) (by decide) (by decide) (fun fs hr => X59.ireturnOut hx hret rfl (by simp) (hb hby at_202) hr) fun U eU hF => hΦ _ _ _ ?_ hF
    rw [eU, e59]
    show Q_rm0 Z xa xb xs ac cc bv h0 n0 _ _ _
    exact ⟨rfl, N59⟩

set_option maxRecDepth 65536 in
set_option maxHeartbeats 40000000 in
theorem comes_1 {Post : Tables → Env → Array Value → State → Outcome → State → Prop} (hpost : ∀ tb e args s v u, (limb_1_1.after args s (.returned v) u = true ∧ limb_1_2.after args s (.returned v) u = true ∧ True) → FrameEnd s (.returned v) u (Jvm.fieldLocs frame_1_writes args s ++ Jvm.arrayLocs frame_1_arrays args s ++ Jvm.staticLocs frame_1_statics s) 16 128 → Post tb e args s (.returned v) u) :
    ArmFor flags0 classFile x code maxLocals ret World_1 tables_1 room_1 Calls_1 rest_1 Pre_1 Post := by
  intro l hfl _ _ p e ha hc hk s m args below hf hA hF happ hP
  obtain ⟨hcalls, hrest, hpre⟩ := hP
  obtain ⟨-, -, -, hnamed, -, -, -, hat⟩ := (Spec.applies_iff hf).mp happ
  obtain ⟨hg, hn⟩ := and_e (Cond.before_iff.mp (show (Jvm.Cond.and given_1 narrow_1).before args s = true from hpre))
  obtain ⟨g0, r0⟩ := and_e hg
  obtain ⟨k0, r1⟩ := and_e r0
  obtain ⟨k1, r2⟩ := and_e r1
  have k2 := r2
  obtain ⟨w0, w1, w2, rfl⟩ : ∃ w0 w1 w2 : Value, args = #[w0, w1, w2] := by
    have hs : args.size = 3 := by simpa [Cond.value, given_1] using g0
    obtain ⟨L⟩ := args
    match L, hs with
    | [w0, w1, w2], _ => exact ⟨w0, w1, w2, rfl⟩
  have hw := fun d (hd : d ∈ tables_1) => atoms_spec (ws := Jvm.Cond.code x code maxLocals ret :: tables_1) hat d (List.mem_cons_of_mem _ hd)
  have hfit : Fit s := fun {y c} hc i hi => by
    obtain ⟨ha, rfl⟩ := Array.getElem?_eq_some_iff.mp hc
    have q := List.all_eq_true.mp ((Array.all_eq_true_iff_forall_mem.mp hF) _ (Array.getElem_mem ha)) i (List.mem_range.mpr hi)
    simpa [Array.getElem?_eq_getElem hi] using q
  obtain ⟨i0, ei0⟩ := is_v k0
  obtain rfl : w0 = (.int i0) := Option.some.inj ei0
  obtain ⟨i1, ei1⟩ := is_v k1
  obtain rfl : w1 = (.int i1) := Option.some.inj ei1
  obtain ⟨i2, ei2⟩ := is_v k2
  obtain rfl : w2 = (.int i2) := Option.some.inj ei2
  have hrc : rest_1_c.before _ s = true := hrest
  rw [rest_1_c_eq] at hrc
  have hsets := (atoms_of jdkStatics_1 hrc).1
  have v_hi := own_eqV (Term.int_eval 127) rfl (Cond.before_iff.mp (hsets _ (List.mem_of_getElem? (i := 3) rfl)))
  have S_hi := Sta.start v_hi (Or.inl (hsets _ (List.mem_of_getElem? (i := 1) rfl)))
  obtain ⟨ac, v_ca⟩ := arr_v (Cond.before_iff.mp (hsets _ (List.mem_of_getElem? (i := 4) rfl)))
  have S_ca := Sta.start v_ca (Or.inr ⟨(ow41 hw), (hsets _ (List.mem_of_getElem? (i := 2) rfl))⟩)
  obtain ⟨cc, A_ca⟩ := Arr.start v_ca (Cond.before_iff.mp (hsets _ (List.mem_of_getElem? (i := 4) rfl)))
  obtain ⟨lq1, lq2⟩ := own_lenI v_ca A_ca (Cond.before_iff.mp (hsets _ (List.mem_of_getElem? (i := 6) rfl)))
  have B_x := Bxs.start (val := fun j => .int (j - 128)) (fun _ => v_ca) A_ca lq1 lq2 (by decide) (Cond.before_iff.mp (hsets _ (List.mem_of_getElem? (i := 7) rfl))) (fun X j nj q => eqv_i (own_subI (idx_at nj)) q)
  obtain ⟨n, o, h1, h2, h3, _, L, rfl, ⟨rfl, N⟩, hq⟩ := rm0 l s _ hw tables_1 i0 i1 i2 ac cc _ s.heap s.heap.size (Nat.le_refl _) (Old.start s) S_hi S_ca B_x p e ha hc hk s m _ below hf ((Spec.applies_iff_loose hf).mp happ).1 ⟨rfl, State.Warmed39.refl s, rfl⟩ trivial
  refine ⟨n, _, h1, h2, h3, hpost _ _ _ _ _ _ ⟨Cond.after_iff.mpr rfl, Cond.after_iff.mpr (eq_i res_at (Term.int_eval (1)) rfl), trivial⟩ ⟨hq.1, hq.2.1, (hq.2.2.sift fun y hy => Or.inr (N y hy)).mono (by decide) (by decide)⟩⟩
theorem main_1_1 : Claimed_1_1 := comes_1 fun _ _ _ _ _ _ h hF => ⟨h.1, hF⟩
theorem main_1_2 : Claimed_1_2 := comes_1 fun _ _ _ _ _ _ h hF => ⟨h.2.1, hF⟩
end Jvm.Pilot.@@N@@
namespace Jvm.Pilot.@@N@@
open Jvm Jvm.ClassFile Sem Op Lib Jvm.Free Jvm.Stand Jvm.Pilot.@@N@@.Jvm.D
/-! MADE BY PROGRAM (witnessworld.py) out of the Statement's table words and the real class files: 19 classes; the members and pool entries that the words name. The judged class is class 1, her method 1. -/
namespace start1
open Jvm.ClassFile
def u (s : String) : CpInfo := .utf8 (stringToUtf16 s)
/-- a pool by its gaps: so many unusable entries, then the entry; so many at the end -/
def gap : Nat → List CpInfo → List CpInfo
  | 0, r => r
  | n + 1, r => .unusable :: gap n r
def poolList (es : List (Nat × CpInfo)) (last : Nat) : List CpInfo := es.foldr (fun e r => gap e.1 (e.2 :: r)) (gap last [])
def pool (es : List (Nat × CpInfo)) (last : Nat) : Array CpInfo := ⟨poolList es last⟩
def fileOf (pool : Array CpInfo) (this : Nat) (attrs : Array Attribute := #[]) (ms : Array MethodInfo := #[]) (fl : Nat := 33) (sup : Nat := 0) (ifs : Array Nat := #[]) (fds : Array FieldInfo := #[]) : ClassFile where
  minorVersion := 0
  majorVersion := 65
  constantPool := pool
  accessFlags := fl
  thisClass := this
  superClass := sup
  interfaces := ifs
  fields := fds
  methods := ms
  attributes := attrs
def plain (name : String) (sup : Option ClassId) : Class where
  name := name
  kind := .ordinary
  loader := none
  accessFlags := 33
  super := sup
  interfaces := #[]
  cf := none
  fields := #[]
  methods := #[]
  instanceTypes := #[]
  staticTypes := #[]
  resolved := #[]
  callSites := []
  init := .initialized
  statics := none
  mirror := none

def pool0 : Array CpInfo := pool [(5, u "<init>"), (0, u "()V"), (1, .class_ 10), (1, u "java/lang/Object")] 113

def k0c0 : Code := { maxStack := 0, maxLocals := 1, code := object_method_1_code, exceptionTable := #[], attributes := #[] }
def k0m0 : Method := { name := "<init>", desc := "()V", sig := { parameters := [], returnType := none }, accessFlags := 1, code := some k0c0 }
/-- java/lang/Object -/
def k0 : Class := { plain "java/lang/Object" none with
  accessFlags := 33
  interfaces := #[]
  cf := some (fileOf pool0 8 #[] #[{ accessFlags := 1, nameIndex := 5, descriptorIndex := 6, attributes := #[] }] 33 0 #[] #[])
  fields := #[]
  methods := #[k0m0]
  instanceTypes := #[]
  staticTypes := #[]
  resolved := Array.replicate 124 none
  statics := none }

def pool1 : Array CpInfo := pool [(2, .class_ 4), (1, u "java/lang/Object"), (0, u "<init>"), (0, u "()V"), (0, .class_ 8), (0, u "com/example/tersewire/tersewire/ArrayType"), (0, .methodref 7 10), (0, .nameAndType 5 11), (0, u "(I)V"), (0, .integer 2147483647), (0, .methodref 7 14), (0, .nameAndType 15 16), (0, u "equals"), (0, u "(Ljava/lang/Object;)Z"), (0, .class_ 18), (0, u "com/example/tersewire/tersewire/UnionType"), (0, .methodref 17 20), (0, .nameAndType 5 21), (0, u "([I)V"), (0, .methodref 23 24), (0, .class_ 25), (0, .nameAndType 26 27), (0, u "java/lang/Integer"), (0, u "valueOf"), (0, u "(I)Ljava/lang/Integer;"), (0, .class_ 29), (0, u "com/example/tersewire/tersewire/ArrayTypeEqualsPinLaw"), (2, u "law"), (0, u "(III)Z")] 5

def k1m0 : Method := { name := "<init>", desc := "()V", sig := { parameters := [], returnType := none }, accessFlags := 1, code := none }
def k1c1 : Code := { maxStack := 3, maxLocals := 7, code := code, exceptionTable := #[], attributes := #[] }
def k1m1 : Method := { name := "law", desc := "(III)Z", sig := { parameters := [.int, .int, .int], returnType := some .boolean }, accessFlags := 9, code := some k1c1 }
/-- com/example/tersewire/tersewire/ArrayTypeEqualsPinLaw -/
def k1 : Class := { plain "com/example/tersewire/tersewire/ArrayTypeEqualsPinLaw" (some 0) with
  accessFlags := 49
  interfaces := #[]
  cf := some (fileOf pool1 28 #[] #[{ accessFlags := 1, nameIndex := 5, descriptorIndex := 6, attributes := #[] }, { accessFlags := 9, nameIndex := 32, descriptorIndex := 33, attributes := #[] }] 49 2 #[] #[])
  fields := #[]
  methods := #[k1m0, k1m1]
  instanceTypes := #[]
  staticTypes := #[]
  resolved := Array.replicate 39 none
  statics := none }

def pool2 : Array CpInfo := pool [(1, .methodref 2 3), (0, .class_ 4), (0, .nameAndType 5 6), (0, u "java/lang/Object"), (0, u "<init>"), (0, u "()V"), (0, .class_ 8), (0, u "java/lang/Record")] 13

def k2c0 : Code := { maxStack := 1, maxLocals := 1, code := jdk_30_method_1_code, exceptionTable := #[], attributes := #[] }
def k2m0 : Method := { name := "<init>", desc := "()V", sig := { parameters := [], returnType := none }, accessFlags := 4, code := some k2c0 }
/-- java/lang/Record -/
def k2 : Class := { plain "java/lang/Record" (some 0) with
  accessFlags := 1057
  interfaces := #[]
  cf := some (fileOf pool2 7 #[] #[{ accessFlags := 4, nameIndex := 5, descriptorIndex := 6, attributes := #[] }] 1057 2 #[] #[])
  fields := #[]
  methods := #[k2m0]
  instanceTypes := #[]
  staticTypes := #[]
  resolved := Array.replicate 22 none
  statics := none }

def pool3 : Array CpInfo := pool [(1, .class_ 2), (0, u "com/example/tersewire/tersewire/DefinedType"), (0, .class_ 4), (0, u "java/lang/Object")] 9

/-- com/example/tersewire/tersewire/DefinedType -/
def k3 : Class := { plain "com/example/tersewire/tersewire/DefinedType" (some 0) with
  accessFlags := 1536
  interfaces := #[]
  cf := some (fileOf pool3 1 #[] #[] 1536 3 #[] #[])
  fields := #[]
  methods := #[]
  instanceTypes := #[]
  staticTypes := #[]
  resolved := Array.replicate 14 none
  statics := none }

def pool4 : Array CpInfo := pool [(1, .methodref 2 3), (0, .class_ 4), (0, .nameAndType 5 6), (0, u "java/lang/Record"), (0, u "<init>"), (0, u "()V"), (0, .fieldref 8 9), (0, .class_ 10), (0, .nameAndType 11 12), (0, u "com/example/tersewire/tersewire/ArrayType"), (0, u "elementType"), (0, u "I"), (4, .class_ 18), (0, u "com/example/tersewire/tersewire/DefinedType"), (0, u "(I)V"), (3, u "equals"), (0, u "(Ljava/lang/Object;)Z")] 23

def k4c0 : Code := { maxStack := 2, maxLocals := 2, code := prog_1_method_1_code, exceptionTable := #[], attributes := #[] }
def k4m0 : Method := { name := "<init>", desc := "(I)V", sig := { parameters := [.int], returnType := none }, accessFlags := 0, code := some k4c0 }
def k4c1 : Code := { maxStack := 2, maxLocals := 3, code := prog_1_method_2_code, exceptionTable := #[], attributes := #[] }
def k4m1 : Method := { name := "equals", desc := "(Ljava/lang/Object;)Z", sig := { parameters := [(.object "java/lang/Object")], returnType := some .boolean }, accessFlags := 1, code := some k4c1 }
/-- com/example/tersewire/tersewire/ArrayType -/
def k4 : Class := { plain "com/example/tersewire/tersewire/ArrayType" (some 2) with
  accessFlags := 48
  interfaces := #[3]
  cf := some (fileOf pool4 8 #[] #[{ accessFlags := 0, nameIndex := 5, descriptorIndex := 19, attributes := #[] }, { accessFlags := 1, nameIndex := 23, descriptorIndex := 24, attributes := #[] }] 48 2 #[17] #[{ accessFlags := 18, nameIndex := 11, descriptorIndex := 12, attributes := #[] }])
  fields := #[{ name := "elementType", type := .int, accessFlags := 18, slot := 0, constantValue := 0 }]
  methods := #[k4m0, k4m1]
  instanceTypes := #[.int]
  staticTypes := #[]
  resolved := Array.replicate 48 none
  statics := none }

def pool5 : Array CpInfo := pool [(1, .methodref 2 3), (0, .class_ 4), (0, .nameAndType 5 6), (0, u "java/lang/Record"), (0, u "<init>"), (0, u "()V"), (0, .fieldref 8 9), (0, .class_ 10), (0, .nameAndType 11 12), (0, u "com/example/tersewire/tersewire/UnionType"), (0, u "members"), (0, u "[I"), (18, .class_ 32), (0, u "com/example/tersewire/tersewire/DefinedType"), (0, u "([I)V")] 26

def k5c0 : Code := { maxStack := 2, maxLocals := 2, code := prog_28_method_1_code, exceptionTable := #[], attributes := #[] }
def k5m0 : Method := { name := "<init>", desc := "([I)V", sig := { parameters := [(.array .int)], returnType := none }, accessFlags := 0, code := some k5c0 }
/-- com/example/tersewire/tersewire/UnionType -/
def k5 : Class := { plain "com/example/tersewire/tersewire/UnionType" (some 2) with
  accessFlags := 48
  interfaces := #[3]
  cf := some (fileOf pool5 8 #[] #[{ accessFlags := 0, nameIndex := 5, descriptorIndex := 33, attributes := #[] }] 48 2 #[31] #[{ accessFlags := 18, nameIndex := 11, descriptorIndex := 12, attributes := #[] }])
  fields := #[{ name := "members", type := (.array .int), accessFlags := 18, slot := 0, constantValue := 0 }]
  methods := #[k5m0]
  instanceTypes := #[(.array .int)]
  staticTypes := #[]
  resolved := Array.replicate 60 none
  statics := none }

def pool6 : Array CpInfo := pool [(1, .class_ 2), (0, u "java/io/Serializable"), (0, .class_ 4), (0, u "java/lang/Object")] 2

/-- java/io/Serializable -/
def k6 : Class := { plain "java/io/Serializable" (some 0) with
  accessFlags := 1537
  interfaces := #[]
  cf := some (fileOf pool6 1 #[] #[] 1537 3 #[] #[])
  fields := #[]
  methods := #[]
  instanceTypes := #[]
  staticTypes := #[]
  resolved := Array.replicate 7 none
  statics := none }

def pool7 : Array CpInfo := pool [(1, .methodref 2 3), (0, .class_ 4), (0, .nameAndType 5 6), (0, u "java/lang/Object"), (0, u "<init>"), (0, u "()V"), (1, .class_ 10), (1, u "java/lang/Number"), (2, .class_ 14), (0, u "java/io/Serializable"), (0, u "serialVersionUID"), (0, u "J")] 20

def k7c0 : Code := { maxStack := 1, maxLocals := 1, code := jdk_18_method_1_code, exceptionTable := #[], attributes := #[] }
def k7m0 : Method := { name := "<init>", desc := "()V", sig := { parameters := [], returnType := none }, accessFlags := 1, code := some k7c0 }
/-- java/lang/Number -/
def k7 : Class := { plain "java/lang/Number" (some 0) with
  accessFlags := 1057
  interfaces := #[6]
  cf := some (fileOf pool7 8 #[] #[{ accessFlags := 1, nameIndex := 5, descriptorIndex := 6, attributes := #[] }] 1057 2 #[13] #[{ accessFlags := 26, nameIndex := 15, descriptorIndex := 16, attributes := #[] }])
  fields := #[{ name := "serialVersionUID", type := .long, accessFlags := 26, slot := 0, constantValue := 0 }]
  methods := #[k7m0]
  instanceTypes := #[]
  staticTypes := #[.long]
  resolved := Array.replicate 37 none
  statics := none }

def pool8 : Array CpInfo := pool [(1, .class_ 2), (0, u "java/lang/Comparable"), (0, .class_ 4), (0, u "java/lang/Object")] 7

/-- java/lang/Comparable -/
def k8 : Class := { plain "java/lang/Comparable" (some 0) with
  accessFlags := 1537
  interfaces := #[]
  cf := some (fileOf pool8 1 #[] #[] 1537 3 #[] #[])
  fields := #[]
  methods := #[]
  instanceTypes := #[]
  staticTypes := #[]
  resolved := Array.replicate 12 none
  statics := none }

def pool9 : Array CpInfo := pool [(1, .class_ 2), (0, u "java/lang/constant/Constable"), (0, .class_ 4), (0, u "java/lang/Object")] 6

/-- java/lang/constant/Constable -/
def k9 : Class := { plain "java/lang/constant/Constable" (some 0) with
  accessFlags := 1537
  interfaces := #[]
  cf := some (fileOf pool9 1 #[] #[] 1537 3 #[] #[])
  fields := #[]
  methods := #[]
  instanceTypes := #[]
  staticTypes := #[]
  resolved := Array.replicate 11 none
  statics := none }

def pool10 : Array CpInfo := pool [(1, .class_ 2), (0, u "java/lang/constant/ConstantDesc"), (0, .class_ 4), (0, u "java/lang/Object")] 32

/-- java/lang/constant/ConstantDesc -/
def k10 : Class := { plain "java/lang/constant/ConstantDesc" (some 0) with
  accessFlags := 1537
  interfaces := #[]
  cf := some (fileOf pool10 1 #[] #[] 1537 3 #[] #[])
  fields := #[]
  methods := #[]
  instanceTypes := #[]
  staticTypes := #[]
  resolved := Array.replicate 37 none
  statics := none }

def pool11 : Array CpInfo := pool [(1, .class_ 2), (0, u "java/lang/Integer"), (16, u "digits"), (0, u "[C"), (46, u "<init>"), (17, u "DigitOnes"), (0, u "[B"), (2, u "DigitTens"), (10, .nameAndType 67 101), (0, u "()V"), (85, u "valueOf"), (0, u "(I)Ljava/lang/Integer;"), (0, .class_ 190), (0, u "java/lang/Integer$IntegerCache"), (0, .fieldref 189 192), (0, .nameAndType 193 194), (0, u "high"), (0, u "I"), (0, .fieldref 189 196), (0, .nameAndType 197 198), (0, u "cache"), (0, u "[Ljava/lang/Integer;"), (0, .methodref 1 200), (0, .nameAndType 67 201), (0, u "(I)V"), (0, .methodref 203 100), (0, .class_ 204), (0, u "java/lang/Number"), (0, .fieldref 1 206), (0, .nameAndType 207 194), (0, u "value"), (94, u "TYPE"), (0, u "Ljava/lang/Class;"), (0, .class_ 305), (0, u "java/lang/Comparable"), (0, .class_ 307), (0, u "java/lang/constant/Constable"), (0, .class_ 309), (0, u "java/lang/constant/ConstantDesc"), (0, u "MIN_VALUE"), (1, u "MAX_VALUE"), (3, u "SIZE"), (1, u "BYTES"), (1, u "serialVersionUID"), (0, u "J")] 131

def k11c0 : Code := { maxStack := 3, maxLocals := 1, code := jdk_33_method_22_code, exceptionTable := #[], attributes := #[] }
def k11m0 : Method := { name := "valueOf", desc := "(I)Ljava/lang/Integer;", sig := { parameters := [.int], returnType := some (.object "java/lang/Integer") }, accessFlags := 9, code := some k11c0 }
def k11c1 : Code := { maxStack := 2, maxLocals := 2, code := jdk_33_method_23_code, exceptionTable := #[], attributes := #[] }
def k11m1 : Method := { name := "<init>", desc := "(I)V", sig := { parameters := [.int], returnType := none }, accessFlags := 1, code := some k11c1 }
/-- java/lang/Integer -/
def k11 : Class := { plain "java/lang/Integer" (some 7) with
  accessFlags := 49
  interfaces := #[8, 9, 10]
  cf := some (fileOf pool11 1 #[.nestMembers #[189]] #[{ accessFlags := 9, nameIndex := 187, descriptorIndex := 188, attributes := #[] }, { accessFlags := 1, nameIndex := 67, descriptorIndex := 201, attributes := #[] }] 49 203 #[304, 306, 308] #[{ accessFlags := 25, nameIndex := 310, descriptorIndex := 194, attributes := #[] }, { accessFlags := 25, nameIndex := 312, descriptorIndex := 194, attributes := #[] }, { accessFlags := 25, nameIndex := 302, descriptorIndex := 303, attributes := #[] }, { accessFlags := 24, nameIndex := 19, descriptorIndex := 20, attributes := #[] }, { accessFlags := 24, nameIndex := 89, descriptorIndex := 86, attributes := #[] }, { accessFlags := 24, nameIndex := 85, descriptorIndex := 86, attributes := #[] }, { accessFlags := 18, nameIndex := 207, descriptorIndex := 194, attributes := #[] }, { accessFlags := 25, nameIndex := 316, descriptorIndex := 194, attributes := #[] }, { accessFlags := 25, nameIndex := 318, descriptorIndex := 194, attributes := #[] }, { accessFlags := 26, nameIndex := 320, descriptorIndex := 321, attributes := #[] }])
  fields := #[{ name := "MIN_VALUE", type := .int, accessFlags := 25, slot := 0, constantValue := 0 }, { name := "MAX_VALUE", type := .int, accessFlags := 25, slot := 1, constantValue := 0 }, { name := "TYPE", type := (.object "java/lang/Class"), accessFlags := 25, slot := 2, constantValue := 0 }, { name := "digits", type := (.array .char), accessFlags := 24, slot := 3, constantValue := 0 }, { name := "DigitTens", type := (.array .byte), accessFlags := 24, slot := 4, constantValue := 0 }, { name := "DigitOnes", type := (.array .byte), accessFlags := 24, slot := 5, constantValue := 0 }, { name := "value", type := .int, accessFlags := 18, slot := 0, constantValue := 0 }, { name := "SIZE", type := .int, accessFlags := 25, slot := 6, constantValue := 0 }, { name := "BYTES", type := .int, accessFlags := 25, slot := 7, constantValue := 0 }, { name := "serialVersionUID", type := .long, accessFlags := 26, slot := 8, constantValue := 0 }]
  methods := #[k11m0, k11m1]
  instanceTypes := #[.int]
  staticTypes := #[.int, .int, (.object "java/lang/Class"), (.array .char), (.array .byte), (.array .byte), .int, .int, .long]
  resolved := Array.replicate 453 none
  statics := none }

def pool12 : Array CpInfo := pool [(2, .class_ 4), (1, u "java/lang/Object"), (0, u "<init>"), (0, u "()V"), (0, .class_ 8), (0, u "java/lang/Integer"), (7, .class_ 18), (1, u "java/lang/Integer$IntegerCache"), (0, u "$assertionsDisabled"), (0, u "Z"), (26, u "high"), (0, u "I"), (8, u "archivedCache"), (0, u "[Ljava/lang/Integer;"), (12, u "cache"), (0, u "low")] 27

def k12m0 : Method := { name := "<init>", desc := "()V", sig := { parameters := [], returnType := none }, accessFlags := 2, code := none }
/-- java/lang/Integer$IntegerCache -/
def k12 : Class := { plain "java/lang/Integer$IntegerCache" (some 0) with
  accessFlags := 48
  interfaces := #[]
  cf := some (fileOf pool12 16 #[.nestHost 7] #[{ accessFlags := 2, nameIndex := 5, descriptorIndex := 6, attributes := #[] }] 48 2 #[] #[{ accessFlags := 24, nameIndex := 72, descriptorIndex := 48, attributes := #[] }, { accessFlags := 24, nameIndex := 47, descriptorIndex := 48, attributes := #[] }, { accessFlags := 24, nameIndex := 71, descriptorIndex := 58, attributes := #[] }, { accessFlags := 8, nameIndex := 57, descriptorIndex := 58, attributes := #[] }, { accessFlags := 4120, nameIndex := 19, descriptorIndex := 20, attributes := #[] }])
  fields := #[{ name := "low", type := .int, accessFlags := 24, slot := 0, constantValue := 0 }, { name := "high", type := .int, accessFlags := 24, slot := 1, constantValue := 0 }, { name := "cache", type := (.array (.object "java/lang/Integer")), accessFlags := 24, slot := 2, constantValue := 0 }, { name := "archivedCache", type := (.array (.object "java/lang/Integer")), accessFlags := 8, slot := 3, constantValue := 0 }, { name := "$assertionsDisabled", type := .boolean, accessFlags := 4120, slot := 4, constantValue := 0 }]
  methods := #[k12m0]
  instanceTypes := #[]
  staticTypes := #[.int, .int, (.array (.object "java/lang/Integer")), (.array (.object "java/lang/Integer")), .boolean]
  resolved := Array.replicate 100 none
  statics := some 0 }

def pool13 : Array CpInfo := pool [(1, u "java/lang/Cloneable"), (0, .class_ 1), (0, u "java/lang/Object"), (0, .class_ 3)] 3

/-- java/lang/Cloneable -/
def k13 : Class := { plain "java/lang/Cloneable" (some 0) with
  accessFlags := 1537
  interfaces := #[]
  cf := some (fileOf pool13 2 #[] #[] 1537 4 #[] #[])
  fields := #[]
  methods := #[]
  instanceTypes := #[]
  staticTypes := #[]
  resolved := Array.replicate 8 none
  statics := none }

/-- the primitive byte -/
def k14 : Class := { plain "byte" none with kind := .primitive 'B', accessFlags := 0x411 }
/-- [B -/
def k15 : Class := { plain "[B" (some 0) with kind := .array 14 .byte, interfaces := #[13, 6], accessFlags := 1041 }

/-- the primitive int -/
def k16 : Class := { plain "int" none with kind := .primitive 'I', accessFlags := 0x411 }
/-- [I -/
def k17 : Class := { plain "[I" (some 0) with kind := .array 16 .int, interfaces := #[13, 6], accessFlags := 1041 }

/-- [Ljava/lang/Integer; -/
def k18 : Class := { plain "[Ljava/lang/Integer;" (some 0) with kind := .array 11 (.object "java/lang/Integer"), interfaces := #[13, 6], accessFlags := 1041 }

def heap : Heap := #[{ cls := 12, slots := #[.int 0, .int 127, .ref 1, .null, .int 0], vm := .statics 12 },
  { cls := 18, slots := #[.ref 2, .ref 3, .ref 4, .ref 5, .ref 6, .ref 7, .ref 8, .ref 9, .ref 10, .ref 11, .ref 12, .ref 13, .ref 14, .ref 15, .ref 16, .ref 17, .ref 18, .ref 19, .ref 20, .ref 21, .ref 22, .ref 23, .ref 24, .ref 25, .ref 26, .ref 27, .ref 28, .ref 29, .ref 30, .ref 31, .ref 32, .ref 33, .ref 34, .ref 35, .ref 36, .ref 37, .ref 38, .ref 39, .ref 40, .ref 41, .ref 42, .ref 43, .ref 44, .ref 45, .ref 46, .ref 47, .ref 48, .ref 49, .ref 50, .ref 51, .ref 52, .ref 53, .ref 54, .ref 55, .ref 56, .ref 57, .ref 58, .ref 59, .ref 60, .ref 61, .ref 62, .ref 63, .ref 64, .ref 65, .ref 66, .ref 67, .ref 68, .ref 69, .ref 70, .ref 71, .ref 72, .ref 73, .ref 74, .ref 75, .ref 76, .ref 77, .ref 78, .ref 79, .ref 80, .ref 81, .ref 82, .ref 83, .ref 84, .ref 85, .ref 86, .ref 87, .ref 88, .ref 89, .ref 90, .ref 91, .ref 92, .ref 93, .ref 94, .ref 95, .ref 96, .ref 97, .ref 98, .ref 99, .ref 100, .ref 101, .ref 102, .ref 103, .ref 104, .ref 105, .ref 106, .ref 107, .ref 108, .ref 109, .ref 110, .ref 111, .ref 112, .ref 113, .ref 114, .ref 115, .ref 116, .ref 117, .ref 118, .ref 119, .ref 120, .ref 121, .ref 122, .ref 123, .ref 124, .ref 125, .ref 126, .ref 127, .ref 128, .ref 129, .ref 130, .ref 131, .ref 132, .ref 133, .ref 134, .ref 135, .ref 136, .ref 137, .ref 138, .ref 139, .ref 140, .ref 141, .ref 142, .ref 143, .ref 144, .ref 145, .ref 146, .ref 147, .ref 148, .ref 149, .ref 150, .ref 151, .ref 152, .ref 153, .ref 154, .ref 155, .ref 156, .ref 157, .ref 158, .ref 159, .ref 160, .ref 161, .ref 162, .ref 163, .ref 164, .ref 165, .ref 166, .ref 167, .ref 168, .ref 169, .ref 170, .ref 171, .ref 172, .ref 173, .ref 174, .ref 175, .ref 176, .ref 177, .ref 178, .ref 179, .ref 180, .ref 181, .ref 182, .ref 183, .ref 184, .ref 185, .ref 186, .ref 187, .ref 188, .ref 189, .ref 190, .ref 191, .ref 192, .ref 193, .ref 194, .ref 195, .ref 196, .ref 197, .ref 198, .ref 199, .ref 200, .ref 201, .ref 202, .ref 203, .ref 204, .ref 205, .ref 206, .ref 207, .ref 208, .ref 209, .ref 210, .ref 211, .ref 212, .ref 213, .ref 214, .ref 215, .ref 216, .ref 217, .ref 218, .ref 219, .ref 220, .ref 221, .ref 222, .ref 223, .ref 224, .ref 225, .ref 226, .ref 227, .ref 228, .ref 229, .ref 230, .ref 231, .ref 232, .ref 233, .ref 234, .ref 235, .ref 236, .ref 237, .ref 238, .ref 239, .ref 240, .ref 241, .ref 242, .ref 243, .ref 244, .ref 245, .ref 246, .ref 247, .ref 248, .ref 249, .ref 250, .ref 251, .ref 252, .ref 253, .ref 254, .ref 255, .ref 256, .ref 257], vm := .none },
  { cls := 11, slots := #[.int (-128)], vm := .none },
  { cls := 11, slots := #[.int (-127)], vm := .none },
  { cls := 11, slots := #[.int (-126)], vm := .none },
  { cls := 11, slots := #[.int (-125)], vm := .none },
  { cls := 11, slots := #[.int (-124)], vm := .none },
  { cls := 11, slots := #[.int (-123)], vm := .none },
  { cls := 11, slots := #[.int (-122)], vm := .none },
  { cls := 11, slots := #[.int (-121)], vm := .none },
  { cls := 11, slots := #[.int (-120)], vm := .none },
  { cls := 11, slots := #[.int (-119)], vm := .none },
  { cls := 11, slots := #[.int (-118)], vm := .none },
  { cls := 11, slots := #[.int (-117)], vm := .none },
  { cls := 11, slots := #[.int (-116)], vm := .none },
  { cls := 11, slots := #[.int (-115)], vm := .none },
  { cls := 11, slots := #[.int (-114)], vm := .none },
  { cls := 11, slots := #[.int (-113)], vm := .none },
  { cls := 11, slots := #[.int (-112)], vm := .none },
  { cls := 11, slots := #[.int (-111)], vm := .none },
  { cls := 11, slots := #[.int (-110)], vm := .none },
  { cls := 11, slots := #[.int (-109)], vm := .none },
  { cls := 11, slots := #[.int (-108)], vm := .none },
  { cls := 11, slots := #[.int (-107)], vm := .none },
  { cls := 11, slots := #[.int (-106)], vm := .none },
  { cls := 11, slots := #[.int (-105)], vm := .none },
  { cls := 11, slots := #[.int (-104)], vm := .none },
  { cls := 11, slots := #[.int (-103)], vm := .none },
  { cls := 11, slots := #[.int (-102)], vm := .none },
  { cls := 11, slots := #[.int (-101)], vm := .none },
  { cls := 11, slots := #[.int (-100)], vm := .none },
  { cls := 11, slots := #[.int (-99)], vm := .none },
  { cls := 11, slots := #[.int (-98)], vm := .none },
  { cls := 11, slots := #[.int (-97)], vm := .none },
  { cls := 11, slots := #[.int (-96)], vm := .none },
  { cls := 11, slots := #[.int (-95)], vm := .none },
  { cls := 11, slots := #[.int (-94)], vm := .none },
  { cls := 11, slots := #[.int (-93)], vm := .none },
  { cls := 11, slots := #[.int (-92)], vm := .none },
  { cls := 11, slots := #[.int (-91)], vm := .none },
  { cls := 11, slots := #[.int (-90)], vm := .none },
  { cls := 11, slots := #[.int (-89)], vm := .none },
  { cls := 11, slots := #[.int (-88)], vm := .none },
  { cls := 11, slots := #[.int (-87)], vm := .none },
  { cls := 11, slots := #[.int (-86)], vm := .none },
  { cls := 11, slots := #[.int (-85)], vm := .none },
  { cls := 11, slots := #[.int (-84)], vm := .none },
  { cls := 11, slots := #[.int (-83)], vm := .none },
  { cls := 11, slots := #[.int (-82)], vm := .none },
  { cls := 11, slots := #[.int (-81)], vm := .none },
  { cls := 11, slots := #[.int (-80)], vm := .none },
  { cls := 11, slots := #[.int (-79)], vm := .none },
  { cls := 11, slots := #[.int (-78)], vm := .none },
  { cls := 11, slots := #[.int (-77)], vm := .none },
  { cls := 11, slots := #[.int (-76)], vm := .none },
  { cls := 11, slots := #[.int (-75)], vm := .none },
  { cls := 11, slots := #[.int (-74)], vm := .none },
  { cls := 11, slots := #[.int (-73)], vm := .none },
  { cls := 11, slots := #[.int (-72)], vm := .none },
  { cls := 11, slots := #[.int (-71)], vm := .none },
  { cls := 11, slots := #[.int (-70)], vm := .none },
  { cls := 11, slots := #[.int (-69)], vm := .none },
  { cls := 11, slots := #[.int (-68)], vm := .none },
  { cls := 11, slots := #[.int (-67)], vm := .none },
  { cls := 11, slots := #[.int (-66)], vm := .none },
  { cls := 11, slots := #[.int (-65)], vm := .none },
  { cls := 11, slots := #[.int (-64)], vm := .none },
  { cls := 11, slots := #[.int (-63)], vm := .none },
  { cls := 11, slots := #[.int (-62)], vm := .none },
  { cls := 11, slots := #[.int (-61)], vm := .none },
  { cls := 11, slots := #[.int (-60)], vm := .none },
  { cls := 11, slots := #[.int (-59)], vm := .none },
  { cls := 11, slots := #[.int (-58)], vm := .none },
  { cls := 11, slots := #[.int (-57)], vm := .none },
  { cls := 11, slots := #[.int (-56)], vm := .none },
  { cls := 11, slots := #[.int (-55)], vm := .none },
  { cls := 11, slots := #[.int (-54)], vm := .none },
  { cls := 11, slots := #[.int (-53)], vm := .none },
  { cls := 11, slots := #[.int (-52)], vm := .none },
  { cls := 11, slots := #[.int (-51)], vm := .none },
  { cls := 11, slots := #[.int (-50)], vm := .none },
  { cls := 11, slots := #[.int (-49)], vm := .none },
  { cls := 11, slots := #[.int (-48)], vm := .none },
  { cls := 11, slots := #[.int (-47)], vm := .none },
  { cls := 11, slots := #[.int (-46)], vm := .none },
  { cls := 11, slots := #[.int (-45)], vm := .none },
  { cls := 11, slots := #[.int (-44)], vm := .none },
  { cls := 11, slots := #[.int (-43)], vm := .none },
  { cls := 11, slots := #[.int (-42)], vm := .none },
  { cls := 11, slots := #[.int (-41)], vm := .none },
  { cls := 11, slots := #[.int (-40)], vm := .none },
  { cls := 11, slots := #[.int (-39)], vm := .none },
  { cls := 11, slots := #[.int (-38)], vm := .none },
  { cls := 11, slots := #[.int (-37)], vm := .none },
  { cls := 11, slots := #[.int (-36)], vm := .none },
  { cls := 11, slots := #[.int (-35)], vm := .none },
  { cls := 11, slots := #[.int (-34)], vm := .none },
  { cls := 11, slots := #[.int (-33)], vm := .none },
  { cls := 11, slots := #[.int (-32)], vm := .none },
  { cls := 11, slots := #[.int (-31)], vm := .none },
  { cls := 11, slots := #[.int (-30)], vm := .none },
  { cls := 11, slots := #[.int (-29)], vm := .none },
  { cls := 11, slots := #[.int (-28)], vm := .none },
  { cls := 11, slots := #[.int (-27)], vm := .none },
  { cls := 11, slots := #[.int (-26)], vm := .none },
  { cls := 11, slots := #[.int (-25)], vm := .none },
  { cls := 11, slots := #[.int (-24)], vm := .none },
  { cls := 11, slots := #[.int (-23)], vm := .none },
  { cls := 11, slots := #[.int (-22)], vm := .none },
  { cls := 11, slots := #[.int (-21)], vm := .none },
  { cls := 11, slots := #[.int (-20)], vm := .none },
  { cls := 11, slots := #[.int (-19)], vm := .none },
  { cls := 11, slots := #[.int (-18)], vm := .none },
  { cls := 11, slots := #[.int (-17)], vm := .none },
  { cls := 11, slots := #[.int (-16)], vm := .none },
  { cls := 11, slots := #[.int (-15)], vm := .none },
  { cls := 11, slots := #[.int (-14)], vm := .none },
  { cls := 11, slots := #[.int (-13)], vm := .none },
  { cls := 11, slots := #[.int (-12)], vm := .none },
  { cls := 11, slots := #[.int (-11)], vm := .none },
  { cls := 11, slots := #[.int (-10)], vm := .none },
  { cls := 11, slots := #[.int (-9)], vm := .none },
  { cls := 11, slots := #[.int (-8)], vm := .none },
  { cls := 11, slots := #[.int (-7)], vm := .none },
  { cls := 11, slots := #[.int (-6)], vm := .none },
  { cls := 11, slots := #[.int (-5)], vm := .none },
  { cls := 11, slots := #[.int (-4)], vm := .none },
  { cls := 11, slots := #[.int (-3)], vm := .none },
  { cls := 11, slots := #[.int (-2)], vm := .none },
  { cls := 11, slots := #[.int (-1)], vm := .none },
  { cls := 11, slots := #[.int 0], vm := .none },
  { cls := 11, slots := #[.int 1], vm := .none },
  { cls := 11, slots := #[.int 2], vm := .none },
  { cls := 11, slots := #[.int 3], vm := .none },
  { cls := 11, slots := #[.int 4], vm := .none },
  { cls := 11, slots := #[.int 5], vm := .none },
  { cls := 11, slots := #[.int 6], vm := .none },
  { cls := 11, slots := #[.int 7], vm := .none },
  { cls := 11, slots := #[.int 8], vm := .none },
  { cls := 11, slots := #[.int 9], vm := .none },
  { cls := 11, slots := #[.int 10], vm := .none },
  { cls := 11, slots := #[.int 11], vm := .none },
  { cls := 11, slots := #[.int 12], vm := .none },
  { cls := 11, slots := #[.int 13], vm := .none },
  { cls := 11, slots := #[.int 14], vm := .none },
  { cls := 11, slots := #[.int 15], vm := .none },
  { cls := 11, slots := #[.int 16], vm := .none },
  { cls := 11, slots := #[.int 17], vm := .none },
  { cls := 11, slots := #[.int 18], vm := .none },
  { cls := 11, slots := #[.int 19], vm := .none },
  { cls := 11, slots := #[.int 20], vm := .none },
  { cls := 11, slots := #[.int 21], vm := .none },
  { cls := 11, slots := #[.int 22], vm := .none },
  { cls := 11, slots := #[.int 23], vm := .none },
  { cls := 11, slots := #[.int 24], vm := .none },
  { cls := 11, slots := #[.int 25], vm := .none },
  { cls := 11, slots := #[.int 26], vm := .none },
  { cls := 11, slots := #[.int 27], vm := .none },
  { cls := 11, slots := #[.int 28], vm := .none },
  { cls := 11, slots := #[.int 29], vm := .none },
  { cls := 11, slots := #[.int 30], vm := .none },
  { cls := 11, slots := #[.int 31], vm := .none },
  { cls := 11, slots := #[.int 32], vm := .none },
  { cls := 11, slots := #[.int 33], vm := .none },
  { cls := 11, slots := #[.int 34], vm := .none },
  { cls := 11, slots := #[.int 35], vm := .none },
  { cls := 11, slots := #[.int 36], vm := .none },
  { cls := 11, slots := #[.int 37], vm := .none },
  { cls := 11, slots := #[.int 38], vm := .none },
  { cls := 11, slots := #[.int 39], vm := .none },
  { cls := 11, slots := #[.int 40], vm := .none },
  { cls := 11, slots := #[.int 41], vm := .none },
  { cls := 11, slots := #[.int 42], vm := .none },
  { cls := 11, slots := #[.int 43], vm := .none },
  { cls := 11, slots := #[.int 44], vm := .none },
  { cls := 11, slots := #[.int 45], vm := .none },
  { cls := 11, slots := #[.int 46], vm := .none },
  { cls := 11, slots := #[.int 47], vm := .none },
  { cls := 11, slots := #[.int 48], vm := .none },
  { cls := 11, slots := #[.int 49], vm := .none },
  { cls := 11, slots := #[.int 50], vm := .none },
  { cls := 11, slots := #[.int 51], vm := .none },
  { cls := 11, slots := #[.int 52], vm := .none },
  { cls := 11, slots := #[.int 53], vm := .none },
  { cls := 11, slots := #[.int 54], vm := .none },
  { cls := 11, slots := #[.int 55], vm := .none },
  { cls := 11, slots := #[.int 56], vm := .none },
  { cls := 11, slots := #[.int 57], vm := .none },
  { cls := 11, slots := #[.int 58], vm := .none },
  { cls := 11, slots := #[.int 59], vm := .none },
  { cls := 11, slots := #[.int 60], vm := .none },
  { cls := 11, slots := #[.int 61], vm := .none },
  { cls := 11, slots := #[.int 62], vm := .none },
  { cls := 11, slots := #[.int 63], vm := .none },
  { cls := 11, slots := #[.int 64], vm := .none },
  { cls := 11, slots := #[.int 65], vm := .none },
  { cls := 11, slots := #[.int 66], vm := .none },
  { cls := 11, slots := #[.int 67], vm := .none },
  { cls := 11, slots := #[.int 68], vm := .none },
  { cls := 11, slots := #[.int 69], vm := .none },
  { cls := 11, slots := #[.int 70], vm := .none },
  { cls := 11, slots := #[.int 71], vm := .none },
  { cls := 11, slots := #[.int 72], vm := .none },
  { cls := 11, slots := #[.int 73], vm := .none },
  { cls := 11, slots := #[.int 74], vm := .none },
  { cls := 11, slots := #[.int 75], vm := .none },
  { cls := 11, slots := #[.int 76], vm := .none },
  { cls := 11, slots := #[.int 77], vm := .none },
  { cls := 11, slots := #[.int 78], vm := .none },
  { cls := 11, slots := #[.int 79], vm := .none },
  { cls := 11, slots := #[.int 80], vm := .none },
  { cls := 11, slots := #[.int 81], vm := .none },
  { cls := 11, slots := #[.int 82], vm := .none },
  { cls := 11, slots := #[.int 83], vm := .none },
  { cls := 11, slots := #[.int 84], vm := .none },
  { cls := 11, slots := #[.int 85], vm := .none },
  { cls := 11, slots := #[.int 86], vm := .none },
  { cls := 11, slots := #[.int 87], vm := .none },
  { cls := 11, slots := #[.int 88], vm := .none },
  { cls := 11, slots := #[.int 89], vm := .none },
  { cls := 11, slots := #[.int 90], vm := .none },
  { cls := 11, slots := #[.int 91], vm := .none },
  { cls := 11, slots := #[.int 92], vm := .none },
  { cls := 11, slots := #[.int 93], vm := .none },
  { cls := 11, slots := #[.int 94], vm := .none },
  { cls := 11, slots := #[.int 95], vm := .none },
  { cls := 11, slots := #[.int 96], vm := .none },
  { cls := 11, slots := #[.int 97], vm := .none },
  { cls := 11, slots := #[.int 98], vm := .none },
  { cls := 11, slots := #[.int 99], vm := .none },
  { cls := 11, slots := #[.int 100], vm := .none },
  { cls := 11, slots := #[.int 101], vm := .none },
  { cls := 11, slots := #[.int 102], vm := .none },
  { cls := 11, slots := #[.int 103], vm := .none },
  { cls := 11, slots := #[.int 104], vm := .none },
  { cls := 11, slots := #[.int 105], vm := .none },
  { cls := 11, slots := #[.int 106], vm := .none },
  { cls := 11, slots := #[.int 107], vm := .none },
  { cls := 11, slots := #[.int 108], vm := .none },
  { cls := 11, slots := #[.int 109], vm := .none },
  { cls := 11, slots := #[.int 110], vm := .none },
  { cls := 11, slots := #[.int 111], vm := .none },
  { cls := 11, slots := #[.int 112], vm := .none },
  { cls := 11, slots := #[.int 113], vm := .none },
  { cls := 11, slots := #[.int 114], vm := .none },
  { cls := 11, slots := #[.int 115], vm := .none },
  { cls := 11, slots := #[.int 116], vm := .none },
  { cls := 11, slots := #[.int 117], vm := .none },
  { cls := 11, slots := #[.int 118], vm := .none },
  { cls := 11, slots := #[.int 119], vm := .none },
  { cls := 11, slots := #[.int 120], vm := .none },
  { cls := 11, slots := #[.int 121], vm := .none },
  { cls := 11, slots := #[.int 122], vm := .none },
  { cls := 11, slots := #[.int 123], vm := .none },
  { cls := 11, slots := #[.int 124], vm := .none },
  { cls := 11, slots := #[.int 125], vm := .none },
  { cls := 11, slots := #[.int 126], vm := .none },
  { cls := 11, slots := #[.int 127], vm := .none }]
def classes : Array Class := #[k0, k1, k2, k3, k4, k5, k6, k7, k8, k9, k10, k11, k12, k13, k14, k15, k16, k17, k18]
def interned : List (Array UInt16 × Addr) := []
def slotsUsed : Nat := 517
def theMethod : MethodId := ⟨1, 1⟩
def args0 : Array Value := #[.int 5, .int 5, .int 5]
def aboutOver (below : List Frame) : State where
  vm := { classes := classes, interned := interned.toArray }
  heap := heap
  slotsUsed := slotsUsed
  threads := #[{ frames := .invoking theMethod args0 :: below }]
def below0 : List Frame := [.native { method := ⟨0, 0⟩, args := #[] }]
def about1 : State := aboutOver below0
def p0 : Program := .bare "" "" ""
def e0 : Env := launch0.env 0 0 0
theorem w_frames : about1.frames = Frame.invoking theMethod args0 :: below0 := rfl
set_option maxRecDepth 65536 in
theorem w_args : argsFit about1.vm theMethod args0 = true := by decide +kernel
set_option maxRecDepth 65536 in
theorem w_heap : heapFits about1 = true := by decide +kernel
set_option maxRecDepth 65536 in
theorem w_runnable : about1.curStatus? = some .runnable := by decide +kernel
set_option maxRecDepth 65536 in
theorem w_alone : about1.alone = true := by decide +kernel
set_option maxRecDepth 65536 in
theorem w_named : about1.methodNamed? x = some theMethod := by decide +kernel
set_option maxRecDepth 65536 in
theorem w_hears : about1.hears theMethod below0 = true := by decide +kernel
set_option maxRecDepth 65536 in
theorem w_ripe : about1.ripe theMethod args0 below0 = true := by decide +kernel
theorem w_running : about1.status = .running := rfl
set_option maxRecDepth 65536 in
theorem w_room : about1.hasRoom e0.platform room_1 = true :=
  launch0.hasRoom_least _ room_1 (by decide +kernel) (by decide +kernel) (by decide +kernel) (by decide +kernel) (by decide +kernel) (by decide +kernel)
theorem allAtoms_all (ts : List Jvm.Cond) (a : Array Jvm.Value) (st : Jvm.State) : (allAtoms ts).before a st = ts.all (fun c => c.before a st) := by
  induction ts with
  | nil => rfl
  | cons c t ih =>
    show (Jvm.Cond.and c (allAtoms t)).before a st = _
    rw [Jvm.Cond.before_and, ih, List.all_cons]
def words1 : List Jvm.Cond := Jvm.Cond.code x code maxLocals ret :: tables_1
/-- a 'code' word, met by the world's own term for the bytes: nothing is compared byte by byte -/
theorem code_word {y : MethodName} {bytes : ByteArray} {mx : Nat} {rt : Option FieldType} {a : Array Value} {s : State} {m : MethodId} {meth : Method} {c : Code} (h1 : s.methodNamed? y = some m) (h2 : s.vm.method? m = some meth) (h3 : meth.code = some c) (h4 : c.code = bytes)
    (h5 : (c.maxLocals == mx && c.exceptionTable.isEmpty && decide (c.maxStack ≤ mostOperands) && decide (meth.sig.returnType = rt) && !meth.locks && decide (parseMethodDescriptor y.desc = some meth.sig)) = true) : (Jvm.Cond.code y bytes mx rt).before a s = true := by
  simp only [Bool.and_eq_true, beq_iff_eq, Bool.not_eq_true', decide_eq_true_eq] at h5
  obtain ⟨⟨⟨⟨⟨g1, g2⟩, g3⟩, g4⟩, g5⟩, g6⟩ := h5
  simp [Cond.before, Cond.holds, Cond.value, h1, h2, h3, h4, g1, g2, g3, g4, g5, g6]
def isCode : Jvm.Cond → Bool
  | .code _ _ _ _ => true
  | _ => false
theorem all_split {L : List Jvm.Cond} {P : Jvm.Cond → Bool} (h1 : L.all (fun c => isCode c || P c) = true) (h2 : ∀ c ∈ L.filter isCode, P c = true) : L.all P = true := by
  refine List.all_eq_true.mpr fun c hc => ?_
  have h := List.all_eq_true.mp h1 c hc
  rcases Bool.eq_false_or_eq_true (isCode c) with hi | hi
  · exact h2 c (List.mem_filter.mpr ⟨hc, hi⟩)
  · simpa [hi] using h
set_option maxRecDepth 65536 in
theorem w_c0 : (Jvm.Cond.code x code maxLocals ret).before args0 about1 = true := code_word (m := ⟨1, 1⟩) (meth := k1m1) (c := k1c1) (by decide +kernel) rfl rfl rfl (by decide +kernel)
set_option maxRecDepth 65536 in
theorem w_c1 : (Jvm.Cond.code ({ cls := "com/example/tersewire/tersewire/ArrayType", name := "<init>", desc := "(I)V" } : Jvm.MethodName) prog_1_method_1_code (2 : Nat) (Option.none : Option Jvm.ClassFile.FieldType)).before args0 about1 = true := code_word (m := ⟨4, 0⟩) (meth := k4m0) (c := k4c0) (by decide +kernel) rfl rfl rfl (by decide +kernel)
set_option maxRecDepth 65536 in
theorem w_c2 : (Jvm.Cond.code ({ cls := "java/lang/Record", name := "<init>", desc := "()V" } : Jvm.MethodName) jdk_30_method_1_code (1 : Nat) (Option.none : Option Jvm.ClassFile.FieldType)).before args0 about1 = true := code_word (m := ⟨2, 0⟩) (meth := k2m0) (c := k2c0) (by decide +kernel) rfl rfl rfl (by decide +kernel)
set_option maxRecDepth 65536 in
theorem w_c3 : (Jvm.Cond.code ({ cls := "java/lang/Object", name := "<init>", desc := "()V" } : Jvm.MethodName) object_method_1_code (1 : Nat) (Option.none : Option Jvm.ClassFile.FieldType)).before args0 about1 = true := code_word (m := ⟨0, 0⟩) (meth := k0m0) (c := k0c0) (by decide +kernel) rfl rfl rfl (by decide +kernel)
set_option maxRecDepth 65536 in
theorem w_c4 : (Jvm.Cond.code ({ cls := "com/example/tersewire/tersewire/ArrayType", name := "equals", desc := "(Ljava/lang/Object;)Z" } : Jvm.MethodName) prog_1_method_2_code (3 : Nat) (Option.some Jvm.ClassFile.FieldType.boolean)).before args0 about1 = true := code_word (m := ⟨4, 1⟩) (meth := k4m1) (c := k4c1) (by decide +kernel) rfl rfl rfl (by decide +kernel)
set_option maxRecDepth 65536 in
theorem w_c5 : (Jvm.Cond.code ({ cls := "com/example/tersewire/tersewire/UnionType", name := "<init>", desc := "([I)V" } : Jvm.MethodName) prog_28_method_1_code (2 : Nat) (Option.none : Option Jvm.ClassFile.FieldType)).before args0 about1 = true := code_word (m := ⟨5, 0⟩) (meth := k5m0) (c := k5c0) (by decide +kernel) rfl rfl rfl (by decide +kernel)
set_option maxRecDepth 65536 in
theorem w_c6 : (Jvm.Cond.code ({ cls := "java/lang/Integer", name := "valueOf", desc := "(I)Ljava/lang/Integer;" } : Jvm.MethodName) jdk_33_method_22_code (1 : Nat) (Option.some (Jvm.ClassFile.FieldType.object "java/lang/Integer"))).before args0 about1 = true := code_word (m := ⟨11, 0⟩) (meth := k11m0) (c := k11c0) (by decide +kernel) rfl rfl rfl (by decide +kernel)
set_option maxRecDepth 65536 in
theorem w_c7 : (Jvm.Cond.code ({ cls := "java/lang/Integer", name := "<init>", desc := "(I)V" } : Jvm.MethodName) jdk_33_method_23_code (2 : Nat) (Option.none : Option Jvm.ClassFile.FieldType)).before args0 about1 = true := code_word (m := ⟨11, 1⟩) (meth := k11m1) (c := k11c1) (by decide +kernel) rfl rfl rfl (by decide +kernel)
set_option maxRecDepth 65536 in
theorem w_c8 : (Jvm.Cond.code ({ cls := "java/lang/Number", name := "<init>", desc := "()V" } : Jvm.MethodName) jdk_18_method_1_code (1 : Nat) (Option.none : Option Jvm.ClassFile.FieldType)).before args0 about1 = true := code_word (m := ⟨7, 0⟩) (meth := k7m0) (c := k7c0) (by decide +kernel) rfl rfl rfl (by decide +kernel)
def codes1 : List Jvm.Cond := [Jvm.Cond.code x code maxLocals ret, Jvm.Cond.code ({ cls := "com/example/tersewire/tersewire/ArrayType", name := "<init>", desc := "(I)V" } : Jvm.MethodName) prog_1_method_1_code (2 : Nat) (Option.none : Option Jvm.ClassFile.FieldType), Jvm.Cond.code ({ cls := "java/lang/Record", name := "<init>", desc := "()V" } : Jvm.MethodName) jdk_30_method_1_code (1 : Nat) (Option.none : Option Jvm.ClassFile.FieldType), Jvm.Cond.code ({ cls := "java/lang/Object", name := "<init>", desc := "()V" } : Jvm.MethodName) object_method_1_code (1 : Nat) (Option.none : Option Jvm.ClassFile.FieldType), Jvm.Cond.code ({ cls := "com/example/tersewire/tersewire/ArrayType", name := "equals", desc := "(Ljava/lang/Object;)Z" } : Jvm.MethodName) prog_1_method_2_code (3 : Nat) (Option.some Jvm.ClassFile.FieldType.boolean), Jvm.Cond.code ({ cls := "com/example/tersewire/tersewire/UnionType", name := "<init>", desc := "([I)V" } : Jvm.MethodName) prog_28_method_1_code (2 : Nat) (Option.none : Option Jvm.ClassFile.FieldType), Jvm.Cond.code ({ cls := "java/lang/Integer", name := "valueOf", desc := "(I)Ljava/lang/Integer;" } : Jvm.MethodName) jdk_33_method_22_code (1 : Nat) (Option.some (Jvm.ClassFile.FieldType.object "java/lang/Integer")), Jvm.Cond.code ({ cls := "java/lang/Integer", name := "<init>", desc := "(I)V" } : Jvm.MethodName) jdk_33_method_23_code (2 : Nat) (Option.none : Option Jvm.ClassFile.FieldType), Jvm.Cond.code ({ cls := "java/lang/Number", name := "<init>", desc := "()V" } : Jvm.MethodName) jdk_18_method_1_code (1 : Nat) (Option.none : Option Jvm.ClassFile.FieldType)]
set_option maxRecDepth 65536 in
theorem codes_eq : words1.filter isCode = codes1 := rfl
theorem w_codes : ∀ c ∈ words1.filter isCode, c.before args0 about1 = true := by
  rw [codes_eq]
  intro c hc
  simp only [codes1, List.mem_cons, List.not_mem_nil, or_false] at hc
  rcases hc with rfl | rfl | rfl | rfl | rfl | rfl | rfl | rfl | rfl
  · exact w_c0
  · exact w_c1
  · exact w_c2
  · exact w_c3
  · exact w_c4
  · exact w_c5
  · exact w_c6
  · exact w_c7
  · exact w_c8
set_option maxRecDepth 65536 in
theorem w_t1 : (words1.take 24).all (fun c => isCode c || c.before args0 about1) = true := by decide +kernel
set_option maxRecDepth 65536 in
theorem w_t2 : ((words1.drop 24).take 24).all (fun c => isCode c || c.before args0 about1) = true := by decide +kernel
set_option maxRecDepth 65536 in
theorem w_t3 : ((words1.drop 24).drop 24).all (fun c => isCode c || c.before args0 about1) = true := by decide +kernel
theorem w_tables : (allAtoms (Jvm.Cond.code x code maxLocals ret :: tables_1)).before args0 about1 = true := by
  rw [allAtoms_all]
  show words1.all (fun c => c.before args0 about1) = true
  refine all_split ?_ w_codes
  rw [← List.take_append_drop 24 words1, List.all_append, w_t1, ← List.take_append_drop 24 (words1.drop 24), List.all_append, w_t2, w_t3]
  rfl
set_option maxRecDepth 65536 in
theorem w_rest : rest_1_c.before args0 about1 = true := by decide +kernel
set_option maxRecDepth 65536 in
theorem w_case : (Jvm.Cond.and given_1 narrow_1).before args0 about1 = true := by decide +kernel
theorem w_applies : (headSpec (Jvm.Cond.code x code maxLocals ret :: tables_1) room_1).applies x e0.platform about1 = true :=
  (Spec.applies_iff w_frames).mpr ⟨w_running, w_runnable, w_alone, w_named, w_hears, w_ripe, w_room, w_tables⟩
theorem atStart : AtStart classFile x code maxLocals ret World_1 tables_1 room_1 Calls_1 rest_1 Pre_1 launch0 p0 e0 about1 theMethod args0 below0 :=
  ⟨lists_1, trivial, launch0.admits_env _ _ _, launch0.least_env, fairChoices_fair.cas, fairChoices_fair.clock, w_frames, w_args, w_heap, w_applies, trivial, w_rest, w_case⟩
end start1
theorem witness_1 : WitnessClaimed_1 := ⟨start1.p0, start1.e0, start1.about1, start1.theMethod, start1.args0, start1.below0, start1.atStart⟩
end Jvm.Pilot.@@N@@
