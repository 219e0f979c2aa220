import JvmDerived
import JvmDerived.Pilot.@@N@@Statement
import JvmDerived.Pilot.@@N@@Code
set_option linter.unusedVariables false
set_option linter.unusedSimpArgs false
namespace Jvm.Pilot.@@N@@
open Jvm Jvm.ClassFile Sem Op Lib Jvm.Free Jvm.Stand Jvm.LawKit Jvm.RoadKit Bundle Jvm.Pilot.@@N@@.Jvm.D
section OwnKit
variable {p : Program} {l : Launch} {e : Env} {R : Room} {s : State} {m : MethodId} {args : Array Value} {below : List Frame} {meth : Method} {c : Code} {T : State} {locs : List Loc} {cells slots : Nat} {Z : State} {a0 : Array Value} {h : Heap}
/-- from the state U on the run comes to an end of which Q holds -/
def own_Go (p : Program) (e : Env) (below : List Frame) (Q : Outcome → State → Prop) (U : State) : Prop :=
  ∃ u o, Steps p.tables e below U u ∧ u.status = .running ∧ Ended u below o ∧ Q o u
theorem own_st {Q : Outcome → State → Prop} {U V : State} (k : ∀ t, Steps p.tables e below V t → Steps p.tables e below U t) (q : own_Go p e below Q V) : own_Go p e below Q U := by
  obtain ⟨u, o, h1, h2⟩ := q
  exact ⟨u, o, k _ h1, h2⟩
theorem own_tr {Q : Outcome → State → Prop} {U V : State} (k : Steps p.tables e below U V) (q : own_Go p e below Q V) : own_Go p e below Q U := by
  obtain ⟨u, o, h1, h2⟩ := q
  exact ⟨u, o, k.trans h1, h2⟩
/-- what a body leaves, said of its end -/
abbrev own_Post (s : State) (Qc : Option Value → Heap → List Loc → Prop) (k n : Nat) : Outcome → State → Prop := fun o u => ∃ v L, o = .returned v ∧ Qc v u.heap L ∧ FrameEnd s o u L k n
theorem own_body {y : MethodName} {bytes : ByteArray} {maxL : Nat} {ret : Option FieldType} {ws : List Jvm.Cond} {rm : Room} {as' : Array Value} {h0 : Heap} {Qc : Option Value → Heap → List Loc → Prop} {k n : Nat} (hpl : plainFor y = true)
    (body : ∀ (p : Program) (e : Env) (s : State) (m : MethodId) (below : List Frame) (meth : Method) (c : Code) (s₁ : State), Stand p l e rm s m as' below meth c s₁ [] 0 0 → p.tables.exec = Jvm.exec → Z.Warmed39 s.vm → c.code = bytes → c.maxLocals = maxL → s.vm.findClass y.cls = some m.cls →
      meth.sig.returnType = ret → meth.locks = false → meth.name = y.name → s₁.heap = h0 → own_Go p e below (own_Post s Qc k n) (s₁.setTop (entryFrame m as' maxL))) :
    MetFree l y (head1 (Jvm.Cond.code y bytes maxL ret :: ws) rm) (fun a U => a = as' ∧ Z.Warmed39 U.vm ∧ U.heap = h0) (fun _ _ _ _ _ => True) (fun _ U o U' => own_Post U Qc k n o U') := by
  refine MetFree.of_bodySF hpl hisR ?_
  intro p e s m args below meth c s₁ Bd hml0 hP hK
  obtain ⟨rfl, hZ, hh⟩ := hP
  exact body p e s m below meth c s₁ (Stand.of_body Bd) Bd.exec hZ Bd.bytes hml0 (findClass_of_methodNamed Bd.named) Bd.returns Bd.notSynchronized (name_of_methodNamed Bd.named Bd.method).1 (by rw [← hh, Bd.state]; rfl)
theorem own_end {Qc : Option Value → Heap → List Loc → Prop} {k n : Nat} {v : Option Value} (X : Stand p l e R s m args below meth c T locs cells slots) (hlk : meth.locks = false) (hv : meth.sig.returnType = none → v = none) {g : JFrame}
    (hst : ∀ fs, (∀ (f : JFrame) (acts : List Action), f.method = m → f.locked = none → f.entered = [] → (doReturn e (T.setTop f) acts v).1 = T.setFrames fs) → Steps p.tables e below (T.setTop g) (T.setFrames fs))
    (hQ : Qc v T.heap locs) (hk : cells ≤ k) (hn : slots ≤ n) : own_Go p e below (own_Post s Qc k n) (T.setTop g) := by
  obtain ⟨fs, hr, hrun, hended, hW, hsame⟩ := X.leave (v := v) hv hlk
  exact ⟨_, _, hst fs hr, hrun, hended, _, _, rfl, hQ, ⟨_, rfl⟩, hW, hsame.mono hk hn⟩
theorem own_retI {Qc : Option Value → Heap → List Loc → Prop} {k n : Nat} (X : Stand p l e R s m args below meth c T locs cells slots) (hx : p.tables.exec = Jvm.exec) (hlk : meth.locks = false) (hret : meth.sig.returnType = some .int) {pc : Nat} {Ls : Array Slot} {z : Int32} {rest : List Value}
    (hd : decode c.code pc = .ok (.ireturn, 1)) (hQ : Qc (some (.int z)) T.heap locs) (hk : cells ≤ k) (hn : slots ≤ n) : own_Go p e below (own_Post s Qc k n) (T.setTop (mkF m pc Ls (.int z :: rest))) :=
  own_end X hlk (fun q => by rw [hret] at q; cases q) (fun fs hr => retOut X hx hret (w := .int z) (t := .int) rfl (Or.inl ⟨rfl, Or.inl rfl, z, rfl⟩) hd hr) hQ hk hn
theorem own_retZ {Qc : Option Value → Heap → List Loc → Prop} {k n : Nat} (X : Stand p l e R s m args below meth c T locs cells slots) (hx : p.tables.exec = Jvm.exec) (hlk : meth.locks = false) (hret : meth.sig.returnType = some .boolean) {pc : Nat} {Ls : Array Slot} {z : Int32} {rest : List Value}
    (hz : narrow .boolean (.int z) = .int z) (hd : decode c.code pc = .ok (.ireturn, 1)) (hQ : Qc (some (.int z)) T.heap locs) (hk : cells ≤ k) (hn : slots ≤ n) : own_Go p e below (own_Post s Qc k n) (T.setTop (mkF m pc Ls (.int z :: rest))) :=
  own_end X hlk (fun q => by rw [hret] at q; cases q) (fun fs hr => retOut X hx hret (w := .int z) (t := .boolean) hz (Or.inl ⟨rfl, Or.inr (Or.inl rfl), z, rfl⟩) hd hr) hQ hk hn
theorem own_retJ {Qc : Option Value → Heap → List Loc → Prop} {k n : Nat} (X : Stand p l e R s m args below meth c T locs cells slots) (hx : p.tables.exec = Jvm.exec) (hlk : meth.locks = false) (hret : meth.sig.returnType = some .long) {pc : Nat} {Ls : Array Slot} {z : Int64} {rest : List Value}
    (hd : decode c.code pc = .ok (.lreturn, 1)) (hQ : Qc (some (.long z)) T.heap locs) (hk : cells ≤ k) (hn : slots ≤ n) : own_Go p e below (own_Post s Qc k n) (T.setTop (mkF m pc Ls (.long z :: rest))) :=
  own_end X hlk (fun q => by rw [hret] at q; cases q) (fun fs hr => retOut X hx hret (w := .long z) (t := .long) rfl (Or.inr (Or.inl ⟨rfl, rfl, z, rfl⟩)) hd hr) hQ hk hn
theorem own_retA {Qc : Option Value → Heap → List Loc → Prop} {k n : Nat} (X : Stand p l e R s m args below meth c T locs cells slots) (hx : p.tables.exec = Jvm.exec) (hlk : meth.locks = false) {t : FieldType} (hret : meth.sig.returnType = some t) (ht : t.isReference = true) {pc : Nat} {Ls : Array Slot} {w : Value} (hw : w.isRef = true)
    (hd : decode c.code pc = .ok (.areturn, 1)) (hQ : Qc (some w) T.heap locs) (hk : cells ≤ k) (hn : slots ≤ n) : own_Go p e below (own_Post s Qc k n) (T.setTop (mkF m pc Ls [w])) :=
  own_end X hlk (fun q => by rw [hret] at q; cases q) (fun fs hr => X.areturnOut hx hw hret ht hd hr) hQ hk hn
theorem own_retV {Qc : Option Value → Heap → List Loc → Prop} {k n : Nat} (X : Stand p l e R s m args below meth c T locs cells slots) (hx : p.tables.exec = Jvm.exec) (hlk : meth.locks = false) (hret : meth.sig.returnType = none) {pc : Nat} {Ls : Array Slot}
    (hd : decode c.code pc = .ok (.return_, 1)) (hQ : Qc none T.heap locs) (hk : cells ≤ k) (hn : slots ≤ n) : own_Go p e below (own_Post s Qc k n) (T.setTop (mkF m pc Ls [])) :=
  own_end X hlk (fun _ => rfl) (fun fs hr => X.returnOut hx hret hd hr) hQ hk hn
/-- a callee's contract, as own_body proves it and the three calls below spend it -/
abbrev own_Met (l : Launch) (Z : State) (y : MethodName) (bytes : ByteArray) (maxL : Nat) (ret : Option FieldType) (rm : Room) (as' : Array Value) (h0 : Heap) (Qc : Option Value → Heap → List Loc → Prop) : Prop :=
  MetFree l y (head1 [Jvm.Cond.code y bytes maxL ret] rm) (fun a U => a = as' ∧ Z.Warmed39 U.vm ∧ U.heap = h0) (fun _ _ _ _ _ => True) (fun _ U o U' => own_Post U Qc rm.cells rm.slots o U')
theorem own_callS (X : Stand p l e R s m args below meth c T locs cells slots) (hx : p.tables.exec = Jvm.exec) (hZ : Z.Warmed39 s.vm) {own : String} {index : Nat} {y : MethodName} {bytes : ByteArray} {maxL : Nat} {ret : Option FieldType} {rm : Room} {Qc : Option Value → Heap → List Loc → Prop} {argsL rest : List Value} {ps : List FieldType} {W : Nat} {g : JFrame}
    (hM : own_Met l Z y bytes maxL ret rm argsL.toArray h Qc) (hown : s.vm.findClass own = some m.cls) (w1 : (Jvm.Cond.methodLink own index y).before a0 Z = true) (w2 : (Jvm.Cond.static y).before a0 Z = true) (w3 : (Jvm.Cond.initialized y.cls).before a0 Z = true) (w4 : (Jvm.Cond.code y bytes maxL ret).before a0 Z = true)
    (hy : y.cls ≠ "java/lang/invoke/MethodHandle" ∧ y.cls ≠ "java/lang/invoke/VarHandle") (eT : T.heap = h) (hg : g.method = m) (hsize : g.locals.size = c.maxLocals) (hdesc : parseMethodDescriptor y.desc = some ⟨ps, ret⟩) (hlen : argsL.length = ps.length) (hstack : g.stack = argsL.reverse ++ rest)
    (hW : 2 * g.monitorRoom + (rest.map fun v => v.category).sum ≤ W) (hdg : decode c.code g.pc = .ok (.invokestatic index, 3)) (hf : rm.frames + 1 ≤ R.frames) (hl : W + (maxL + 11) + rm.locals ≤ R.locals) (hc : cells + rm.cells ≤ R.cells) (hs : slots + rm.slots ≤ R.slots) :
    ∃ v T' L, Stand p l e R s m args below meth c T' (locs ++ L) (cells + rm.cells) (slots + rm.slots) ∧ Qc v T'.heap L ∧ ∀ target, Steps p.tables e below (T'.setTop { g with pc := g.pc + 3, stack := v.toList ++ rest }) target → Steps p.tables e below (T.setTop g) target := by
  obtain ⟨v, _, ⟨T1, L1, k1, n1⟩, -, X1, ⟨L, hQ, q1, q2, q3⟩, st⟩ := Jvm.LawKit.callS X hx (y := y) hown (mvT hZ w1) (mvT hZ w2) (mvT hZ w3) (mvT hZ w4) hy (backOf (W := W) hM hZ w4 w3 hf hl) (g := g) hg hsize (lenOf hdesc hlen) hstack hW hdg (fun _ _ => ⟨rfl, eT, hc, hs⟩)
  dsimp only [Pt.U, Pt.locs, Pt.cells, Pt.slots] at X1 q1 q2 q3 st hQ
  subst q1 q2 q3
  exact ⟨v, T1, L, X1, hQ, st⟩
theorem own_callI (X : Stand p l e R s m args below meth c T locs cells slots) (hx : p.tables.exec = Jvm.exec) (hZ : Z.Warmed39 s.vm) {own : String} {index : Nat} {y : MethodName} {bytes : ByteArray} {maxL : Nat} {rm : Room} {Qc : Option Value → Heap → List Loc → Prop} {a : Addr} {argsL rest : List Value} {ps : List FieldType} {W : Nat} {g : JFrame}
    (hM : own_Met l Z y bytes maxL none rm (.ref a :: argsL).toArray h Qc) (hn : y.name = "<init>") (hown : s.vm.findClass own = some m.cls) (w1 : (Jvm.Cond.methodLink own index y).before a0 Z = true) (w2 : (Jvm.Cond.instanceMethod y).before a0 Z = true) (w3 : (Jvm.Cond.initialized y.cls).before a0 Z = true) (w4 : (Jvm.Cond.code y bytes maxL none).before a0 Z = true)
    (hy : y.cls ≠ "java/lang/invoke/MethodHandle" ∧ y.cls ≠ "java/lang/invoke/VarHandle") (eT : T.heap = h) (hg : g.method = m) (hsize : g.locals.size = c.maxLocals) (hdesc : parseMethodDescriptor y.desc = some ⟨ps, none⟩) (hlen : argsL.length = ps.length) (hstack : g.stack = argsL.reverse ++ .ref a :: rest)
    (hW : 2 * g.monitorRoom + (rest.map fun v => v.category).sum ≤ W) (hdg : decode c.code g.pc = .ok (.invokespecial index, 3)) (hf : rm.frames + 1 ≤ R.frames) (hl : W + (maxL + 11) + rm.locals ≤ R.locals) (hc : cells + rm.cells ≤ R.cells) (hs : slots + rm.slots ≤ R.slots) :
    ∃ v T' L, Stand p l e R s m args below meth c T' (locs ++ L) (cells + rm.cells) (slots + rm.slots) ∧ Qc v T'.heap L ∧ ∀ target, Steps p.tables e below (T'.setTop { g with pc := g.pc + 3, stack := v.toList ++ rest }) target → Steps p.tables e below (T.setTop g) target := by
  obtain ⟨v, _, ⟨T1, L1, k1, n1⟩, -, X1, ⟨L, hQ, q1, q2, q3⟩, st⟩ := X.specialBack hx (y := y) hn hown (mvT hZ w1) (mvT hZ w2) (mvT hZ w4) hy (backOf (W := W) hM hZ w4 w3 hf hl) (g := g) hg hsize (Steps.refl _) (a := a) (lenOf hdesc hlen) hstack hW hdg (fun _ _ => ⟨rfl, eT, hc, hs⟩)
  dsimp only [Pt.U, Pt.locs, Pt.cells, Pt.slots] at X1 q1 q2 q3 st hQ
  subst q1 q2 q3
  exact ⟨v, T1, L, X1, hQ, fun _ q => st.trans q⟩
theorem own_callV (X : Stand p l e R s m args below meth c T locs cells slots) (hx : p.tables.exec = Jvm.exec) (hZ : Z.Warmed39 s.vm) {own : String} {index : Nat} {y : MethodName} {bytes : ByteArray} {maxL : Nat} {ret : Option FieldType} {rm : Room} {Qc : Option Value → Heap → List Loc → Prop} {a : Addr} {argsL rest : List Value} {ps : List FieldType} {W : Nat} {g : JFrame}
    (hM : own_Met l Z y bytes maxL ret rm (.ref a :: argsL).toArray h Qc) (E : Exa Z h a y.cls) (hown : s.vm.findClass own = some m.cls) (w1 : (Jvm.Cond.methodLink own index y).before a0 Z = true) (w2 : (Jvm.Cond.declares y).before a0 Z = true) (w3 : (Jvm.Cond.selects y.cls y y).before a0 Z = true) (w4 : (Jvm.Cond.instanceMethod y).before a0 Z = true) (w5 : (Jvm.Cond.initialized y.cls).before a0 Z = true) (w6 : (Jvm.Cond.code y bytes maxL ret).before a0 Z = true)
    (hy : y.cls ≠ "java/lang/invoke/MethodHandle" ∧ y.cls ≠ "java/lang/invoke/VarHandle") (eT : T.heap = h) (hg : g.method = m) (hsize : g.locals.size = c.maxLocals) (hdesc : parseMethodDescriptor y.desc = some ⟨ps, ret⟩) (hlen : argsL.length = ps.length) (hstack : g.stack = argsL.reverse ++ .ref a :: rest)
    (hW : 2 * g.monitorRoom + (rest.map fun v => v.category).sum ≤ W) (hdg : decode c.code g.pc = .ok (.invokevirtual index, 3)) (hf : rm.frames + 1 ≤ R.frames) (hl : W + (maxL + 11) + rm.locals ≤ R.locals) (hc : cells + rm.cells ≤ R.cells) (hs : slots + rm.slots ≤ R.slots) :
    ∃ v T' L, Stand p l e R s m args below meth c T' (locs ++ L) (cells + rm.cells) (slots + rm.slots) ∧ Qc v T'.heap L ∧ ∀ target, Steps p.tables e below (T'.setTop { g with pc := g.pc + 3, stack := v.toList ++ rest }) target → Steps p.tables e below (T.setTop g) target := by
  obtain ⟨cq, kq, qa, qb, qc⟩ := isOf hZ eT E
  obtain ⟨v, _, ⟨T1, L1, k1, n1⟩, -, X1, ⟨L, hQ, q1, q2, q3⟩, st⟩ := X.virtualBack hx (y := y) (z := y) hown (mvT hZ w1) (mvT hZ w2) (notFace_of_selects (args := #[]) (mvT hZ w3)) (mvT hZ w3) (mvT hZ w4) hy (backOf (W := W) hM hZ w6 w5 hf hl) qa qc (g := g) hg hsize (Steps.refl _) (lenOf hdesc hlen) hstack hW hdg (fun _ _ => ⟨rfl, eT, hc, hs⟩)
  dsimp only [Pt.U, Pt.locs, Pt.cells, Pt.slots] at X1 q1 q2 q3 st hQ
  subst q1 q2 q3
  exact ⟨v, T1, L, X1, hQ, fun _ q => st.trans q⟩
/-- what a body that writes nothing leaves -/
abbrev own_P (v : Option Value) (h : Heap) : Option Value → Heap → List Loc → Prop := fun w h' L => w = v ∧ L = [] ∧ h' = h
theorem own_flat (X : Stand p l e R s m args below meth c T (locs ++ []) (cells + 0) (slots + 0)) : Stand p l e R s m args below meth c T locs cells slots := by
  rw [List.append_nil] at X
  exact X
def own_c32 : ClassFile.Cond → Int32 → Int32 → Bool
  | .lt, x, y => decide (x < y)
  | .ge, x, y => !decide (x < y)
  | .gt, x, y => decide (y < x)
  | .le, x, y => !decide (y < x)
  | .eq, x, y => decide (x = y)
  | .ne, x, y => !decide (x = y)
def own_c64 : ClassFile.Cond → Int64 → Int64 → Bool
  | .lt, x, y => decide (x < y)
  | .ge, x, y => !decide (x < y)
  | .gt, x, y => decide (y < x)
  | .le, x, y => !decide (y < x)
  | .eq, x, y => decide (x = y)
  | .ne, x, y => !decide (x = y)
theorem own_yes {P : Prop} [Decidable P] (q : P) : decide P = true := decide_eq_true q
theorem own_no {P : Prop} [Decidable P] (q : ¬ P) : decide P = false := decide_eq_false q
theorem own_nyes {P : Prop} [Decidable P] (q : P) : (!decide P) = false := by rw [decide_eq_true q]; rfl
theorem own_nno {P : Prop} [Decidable P] (q : ¬ P) : (!decide P) = true := by rw [decide_eq_false q]; rfl
theorem own_i2 (cd : ClassFile.Cond) (x y : Int32) : if_icmp.holds cd x y = own_c32 cd x y := by
  cases cd
  case lt => by_cases q : x < y; · exact (tlt q).1.trans (own_yes q).symm
             · exact (flt q).1.trans (own_no q).symm
  case ge => by_cases q : x < y; · exact (tlt q).2.1.trans (own_nyes q).symm
             · exact (flt q).2.1.trans (own_nno q).symm
  case gt => by_cases q : y < x; · exact (tlt q).2.2.1.trans (own_yes q).symm
             · exact (flt q).2.2.1.trans (own_no q).symm
  case le => by_cases q : y < x; · exact (tlt q).2.2.2.trans (own_nyes q).symm
             · exact (flt q).2.2.2.trans (own_nno q).symm
  case eq => by_cases q : x = y; · exact (teq q).1.trans (own_yes q).symm
             · exact (feq q).1.trans (own_no q).symm
  case ne => by_cases q : x = y; · exact (teq q).2.trans (own_nyes q).symm
             · exact (feq q).2.trans (own_nno q).symm
theorem own_i0 (cd : ClassFile.Cond) (x : Int32) : ifCond.holds cd x = own_c32 cd x 0 := (if0 cd x).trans (own_i2 cd x 0)
theorem own_l0 (cd : ClassFile.Cond) (x y : Int64) : ifCond.holds cd (lcmpW x y) = own_c64 cd x y := by
  rw [own_i0]
  have q1 := lw_lt x y
  have q2 := lw_gt x y
  have q3 := lw_eq x y
  cases cd <;> simp only [own_c32, own_c64, q1, q2, q3]
theorem own_ldI {a : Addr} {k : ClassId} {z j : Int32} {vs : List Value} {dv : Value} (F : Arv Z h a k .int z vs dv) (q : ¬ j < 0 ∧ j < z) : ∃ (cl : Cell) (v : Int32), Arr Z h a cl .int ∧ ¬ (j < 0 ∨ cl.slots.size ≤ j.toNatClampNeg) ∧ cl.slots[j.toNatClampNeg]? = some (.int v) := by
  obtain ⟨cl, A, -, S, M, H, G⟩ := F
  have hin := inb_of S q
  have hlt : j.toNatClampNeg < cl.slots.size := Nat.lt_of_not_le fun y => hin (Or.inr y)
  obtain ⟨v, hv⟩ := fit_I (G _ hlt) (Or.inl rfl)
  exact ⟨cl, v, A, hin, by rw [H _ hlt, hv]⟩
theorem own_len {a : Addr} {k : ClassId} {ty : FieldType} {z : Int32} {vs : List Value} {dv : Value} (F : Arv Z h a k ty z vs dv) : ∃ cl : Cell, Arr Z h a cl ty ∧ cl.slots.size = z.toNatClampNeg ∧ ¬ z < 0 := by
  obtain ⟨cl, A, -, S, M, -, -⟩ := F
  exact ⟨cl, A, S, M⟩
theorem own_at {a : Addr} {k : ClassId} {ty : FieldType} {z j : Int32} {vs : List Value} {dv : Value} (F : Arv Z h a k ty z vs dv) (q : ¬ j < 0 ∧ j < z) {i : Nat} (hj : j.toNatClampNeg = i) {v : Value} (hv : vs.getD i dv = v) : ∃ cl : Cell, Arr Z h a cl ty ∧ ¬ (j < 0 ∨ cl.slots.size ≤ j.toNatClampNeg) ∧ cl.slots[j.toNatClampNeg]? = some v := by
  obtain ⟨cl, A, -, S, M, H, -⟩ := F
  have hin := inb_of S q
  have hlt : j.toNatClampNeg < cl.slots.size := Nat.lt_of_not_le fun y => hin (Or.inr y)
  refine ⟨cl, A, hin, ?_⟩
  rw [H _ hlt, hj, hv]
end OwnKit

theorem pd_0 : parseMethodDescriptor "(III)V" = some ⟨[.int, .int, .int], none⟩ := by decide +kernel
theorem pd_1 : parseMethodDescriptor "()V" = some ⟨[], none⟩ := by decide +kernel
theorem pd_2 : parseMethodDescriptor "(J)Z" = some ⟨[.long], some .boolean⟩ := by decide +kernel
theorem pd_3 : parseMethodDescriptor "(IJ)Z" = some ⟨[.int, .long], some .boolean⟩ := by decide +kernel
theorem d2_0 : decode jdk_30_method_1_code 0 = .ok (.aload_n 0, 1) := by decide +kernel
theorem d2_1 : decode jdk_30_method_1_code 1 = .ok (.invokespecial 1, 3) := by decide +kernel
theorem d2_4 : decode jdk_30_method_1_code 4 = .ok (.return_, 1) := by decide +kernel
theorem pn_2 : plainFor (⟨"java/lang/Record", "<init>", "()V"⟩ : MethodName) = true := plainFor_of_name (by first | (simp [plainName, overriddenIn]; done) | decide +kernel)
theorem ef_2 (m : MethodId) (x0 : Addr) : entryFrame m #[(.ref x0)] 1 = mkF m 0 #[.val (.ref x0)] [] := by first | (simp [entryFrame, mkF, argsToLocals, Value.category]; done) | rfl
set_option maxRecDepth 65536 in
set_option maxHeartbeats 40000000 in
theorem rm2 (l : Launch) (Z : State) (tA : Array Value) (hw : ∀ d ∈ tables_1, d.before tA Z = true) (a0 : Addr) (h0 : Heap) :
    own_Met l Z (⟨"java/lang/Record", "<init>", "()V"⟩ : MethodName) jdk_30_method_1_code 1 none ({ frames := 1, cells := 0, slots := 0, locals := 12 } : Room) #[(.ref a0)] h0 (own_P none h0) := by
  refine own_body pn_2 ?_
  intro p e s m below meth c s₁ X0 hx hZ hby hml hown hret hlk hnm e0
  rw [ef_2]
  show own_Go p e below _ (s₁.setTop (mkF m 0 #[.val (.ref a0)] []))
  refine own_st (fun _ k => XS.aloadN X0.here hx rfl (hb hby d2_0) rfl rfl k) ?_
  show own_Go p e below _ (s₁.setTop (mkF m 1 #[.val (.ref a0)] [(.ref a0)]))
  obtain ⟨T1, X1, e1, st1⟩ := initO X0 hx hZ hown (hw _ (List.mem_of_getElem? (i := 12) rfl)) (hw _ (List.mem_of_getElem? (i := 13) rfl)) (hw _ (List.mem_of_getElem? (i := 14) rfl)) e0 (g := (mkF m 1 #[.val (.ref a0)] [(.ref a0)])) rfl (by rw [hml]; rfl) rfl (hb hby d2_1) (by decide) (W := 0) (by show 2 * 0 + _ ≤ _; exact Nat.le_of_eq rfl) (by decide)
  refine own_st st1 ?_
  show own_Go p e below _ (T1.setTop (mkF m 4 #[.val (.ref a0)] []))
  exact own_retV X1 hx hlk hret (hb hby d2_4) ⟨rfl, rfl, e1⟩ (by decide) (by decide)
theorem d1_0 : decode prog_23_method_1_code 0 = .ok (.aload_n 0, 1) := by decide +kernel
theorem d1_1 : decode prog_23_method_1_code 1 = .ok (.invokespecial 3, 3) := by decide +kernel
theorem d1_4 : decode prog_23_method_1_code 4 = .ok (.aload_n 0, 1) := by decide +kernel
theorem d1_5 : decode prog_23_method_1_code 5 = .ok (.iload_n 1, 1) := by decide +kernel
theorem d1_6 : decode prog_23_method_1_code 6 = .ok (.putfield 9, 3) := by decide +kernel
theorem d1_9 : decode prog_23_method_1_code 9 = .ok (.aload_n 0, 1) := by decide +kernel
theorem d1_10 : decode prog_23_method_1_code 10 = .ok (.iload_n 2, 1) := by decide +kernel
theorem d1_11 : decode prog_23_method_1_code 11 = .ok (.putfield 15, 3) := by decide +kernel
theorem d1_14 : decode prog_23_method_1_code 14 = .ok (.aload_n 0, 1) := by decide +kernel
theorem d1_15 : decode prog_23_method_1_code 15 = .ok (.iload_n 3, 1) := by decide +kernel
theorem d1_16 : decode prog_23_method_1_code 16 = .ok (.putfield 18, 3) := by decide +kernel
theorem d1_19 : decode prog_23_method_1_code 19 = .ok (.return_, 1) := by decide +kernel
theorem pn_1 : plainFor (⟨"com/example/rootward/rootward/log/LogFormat$FrameHeader", "<init>", "(III)V"⟩ : MethodName) = true := plainFor_of_name (by first | (simp [plainName, overriddenIn]; done) | decide +kernel)
theorem ef_1 (m : MethodId) (x0 : Addr) (x1 : Int32) (x2 : Int32) (x3 : Int32) : entryFrame m #[(.ref x0), (.int x1), (.int x2), (.int x3)] 4 = mkF m 0 #[.val (.ref x0), .val (.int x1), .val (.int x2), .val (.int x3)] [] := by first | (simp [entryFrame, mkF, argsToLocals, Value.category]; done) | rfl
set_option maxRecDepth 65536 in
set_option maxHeartbeats 40000000 in
theorem rm1 (l : Launch) (Z : State) (tA : Array Value) (hw : ∀ d ∈ tables_1, d.before tA Z = true) (a0 : Addr) (p1 : Int32) (p2 : Int32) (p3 : Int32) (h0 : Heap) (n0 : Nat) (g_a0 : n0 ≤ a0) (E0 : Exa Z h0 a0 "com/example/rootward/rootward/log/LogFormat$FrameHeader") (F0 : Fld Z h0 a0 "com/example/rootward/rootward/log/LogFormat$FrameHeader" "checksum" "I" (.int (0 : Int32))) (F1 : Fld Z h0 a0 "com/example/rootward/rootward/log/LogFormat$FrameHeader" "type" "I" (.int (0 : Int32))) (F2 : Fld Z h0 a0 "com/example/rootward/rootward/log/LogFormat$FrameHeader" "length" "I" (.int (0 : Int32))) :
    own_Met l Z (⟨"com/example/rootward/rootward/log/LogFormat$FrameHeader", "<init>", "(III)V"⟩ : MethodName) prog_23_method_1_code 4 none ({ frames := 2, cells := 0, slots := 0, locals := 24 } : Room) #[(.ref a0), (.int p1), (.int p2), (.int p3)] h0 (fun v h L => v = none ∧ Fr n0 L ∧ Keep h0 h [a0] ∧ Fld Z h a0 "com/example/rootward/rootward/log/LogFormat$FrameHeader" "checksum" "I" (.int p1) ∧ Fld Z h a0 "com/example/rootward/rootward/log/LogFormat$FrameHeader" "type" "I" (.int p2) ∧ Fld Z h a0 "com/example/rootward/rootward/log/LogFormat$FrameHeader" "length" "I" (.int p3)) := by
  refine own_body pn_1 ?_
  intro p e s m below meth c s₁ X0 hx hZ hby hml hown hret hlk hnm e0
  have N0 := Fr.nil n0
  have K0 := Keep.refl h0 [a0]
  rw [ef_1]
  show own_Go p e below _ (s₁.setTop (mkF m 0 #[.val (.ref a0), .val (.int p1), .val (.int p2), .val (.int p3)] []))
  refine own_st (fun _ k => XS.aloadN X0.here hx rfl (hb hby d1_0) rfl rfl k) ?_
  show own_Go p e below _ (s₁.setTop (mkF m 1 #[.val (.ref a0), .val (.int p1), .val (.int p2), .val (.int p3)] [(.ref a0)]))
  obtain ⟨_, T1, _, X1, ⟨rfl, rfl, e1⟩, st1⟩ := own_callI X0 hx hZ (y := (⟨"java/lang/Record", "<init>", "()V"⟩ : MethodName)) (a := a0) (argsL := []) (rest := []) (W := 0) (g := (mkF m 1 #[.val (.ref a0), .val (.int p1), .val (.int p2), .val (.int p3)] [(.ref a0)])) (rm2 l Z tA hw a0 h0) rfl hown (hw _ (List.mem_of_getElem? (i := 7) rfl)) (hw _ (List.mem_of_getElem? (i := 8) rfl)) (hw _ (List.mem_of_getElem? (i := 10) rfl)) (hw _ (List.mem_of_getElem? (i := 11) rfl)) (by decide) e0 rfl (by rw [hml]; rfl) pd_1 rfl rfl (by show 2 * 0 + _ ≤ _; exact Nat.le_of_eq rfl) (hb hby d1_1) (by decide) (by decide) (by decide) (by decide)
  replace X1 := own_flat X1
  refine own_st st1 ?_
  show own_Go p e below _ (T1.setTop (mkF m 4 #[.val (.ref a0), .val (.int p1), .val (.int p2), .val (.int p3)] []))
  refine own_st (fun _ k => XS.aloadN X1.here hx rfl (hb hby d1_4) rfl rfl k) ?_
  show own_Go p e below _ (T1.setTop (mkF m 5 #[.val (.ref a0), .val (.int p1), .val (.int p2), .val (.int p3)] [(.ref a0)]))
  refine own_st (fun _ k => XS.iloadN X1.here hx rfl (hb hby d1_5) rfl k) ?_
  show own_Go p e below _ (T1.setTop (mkF m 6 #[.val (.ref a0), .val (.int p1), .val (.int p2), .val (.int p3)] [(.int p1), (.ref a0)]))
  obtain ⟨T2, h2, X2, e2, W2, st2⟩ := putF X1 hx hZ hown (host := "") (Or.inl (hw _ (List.mem_of_getElem? (i := 15) rfl))) Via.refl e1 F0 E0 (Or.inr ⟨(hw _ (List.mem_of_getElem? (i := 16) rfl)), rfl, hnm⟩) (hw _ (List.mem_of_getElem? (i := 2) rfl)) (ty := .int) (by decide) rfl rfl (g := (mkF m 6 #[.val (.ref a0), .val (.int p1), .val (.int p2), .val (.int p3)] [(.int p1), (.ref a0)])) rfl rfl (hb hby d1_6)
  refine own_st st2 ?_
  replace E0 := E0.wr W2
  replace F1 := F1.other W2 (Or.inr (slot_ne (Or.inr (hw _ (List.mem_of_getElem? (i := 18) rfl))) (Or.inr (hw _ (List.mem_of_getElem? (i := 16) rfl))) (by decide) (t := .int) (t' := .int) (by decide) (by decide)))
  replace F2 := F2.other W2 (Or.inr (slot_ne (Or.inr (hw _ (List.mem_of_getElem? (i := 20) rfl))) (Or.inr (hw _ (List.mem_of_getElem? (i := 16) rfl))) (by decide) (t := .int) (t' := .int) (by decide) (by decide)))
  replace K0 := K0.wr W2 (Or.inl (by simp))
  replace N0 := Fr.snoc X2 N0 g_a0
  replace F0 := F0.same W2
  show own_Go p e below _ (T2.setTop (mkF m 9 #[.val (.ref a0), .val (.int p1), .val (.int p2), .val (.int p3)] []))
  refine own_st (fun _ k => XS.aloadN X2.here hx rfl (hb hby d1_9) rfl rfl k) ?_
  show own_Go p e below _ (T2.setTop (mkF m 10 #[.val (.ref a0), .val (.int p1), .val (.int p2), .val (.int p3)] [(.ref a0)]))
  refine own_st (fun _ k => XS.iloadN X2.here hx rfl (hb hby d1_10) rfl k) ?_
  show own_Go p e below _ (T2.setTop (mkF m 11 #[.val (.ref a0), .val (.int p1), .val (.int p2), .val (.int p3)] [(.int p2), (.ref a0)]))
  obtain ⟨T3, h3, X3, e3, W3, st3⟩ := putF X2 hx hZ hown (host := "") (Or.inl (hw _ (List.mem_of_getElem? (i := 17) rfl))) Via.refl e2 F1 E0 (Or.inr ⟨(hw _ (List.mem_of_getElem? (i := 18) rfl)), rfl, hnm⟩) (hw _ (List.mem_of_getElem? (i := 2) rfl)) (ty := .int) (by decide) rfl rfl (g := (mkF m 11 #[.val (.ref a0), .val (.int p1), .val (.int p2), .val (.int p3)] [(.int p2), (.ref a0)])) rfl rfl (hb hby d1_11)
  refine own_st st3 ?_
  replace E0 := E0.wr W3
  replace F0 := F0.other W3 (Or.inr (slot_ne (Or.inr (hw _ (List.mem_of_getElem? (i := 16) rfl))) (Or.inr (hw _ (List.mem_of_getElem? (i := 18) rfl))) (by decide) (t := .int) (t' := .int) (by decide) (by decide)))
  replace F2 := F2.other W3 (Or.inr (slot_ne (Or.inr (hw _ (List.mem_of_getElem? (i := 20) rfl))) (Or.inr (hw _ (List.mem_of_getElem? (i := 18) rfl))) (by decide) (t := .int) (t' := .int) (by decide) (by decide)))
  replace K0 := K0.wr W3 (Or.inl (by simp))
  replace N0 := Fr.snoc X3 N0 g_a0
  replace F1 := F1.same W3
  show own_Go p e below _ (T3.setTop (mkF m 14 #[.val (.ref a0), .val (.int p1), .val (.int p2), .val (.int p3)] []))
  refine own_st (fun _ k => XS.aloadN X3.here hx rfl (hb hby d1_14) rfl rfl k) ?_
  show own_Go p e below _ (T3.setTop (mkF m 15 #[.val (.ref a0), .val (.int p1), .val (.int p2), .val (.int p3)] [(.ref a0)]))
  refine own_st (fun _ k => XS.iloadN X3.here hx rfl (hb hby d1_15) rfl k) ?_
  show own_Go p e below _ (T3.setTop (mkF m 16 #[.val (.ref a0), .val (.int p1), .val (.int p2), .val (.int p3)] [(.int p3), (.ref a0)]))
  obtain ⟨T4, h4, X4, e4, W4, st4⟩ := putF X3 hx hZ hown (host := "") (Or.inl (hw _ (List.mem_of_getElem? (i := 19) rfl))) Via.refl e3 F2 E0 (Or.inr ⟨(hw _ (List.mem_of_getElem? (i := 20) rfl)), rfl, hnm⟩) (hw _ (List.mem_of_getElem? (i := 2) rfl)) (ty := .int) (by decide) rfl rfl (g := (mkF m 16 #[.val (.ref a0), .val (.int p1), .val (.int p2), .val (.int p3)] [(.int p3), (.ref a0)])) rfl rfl (hb hby d1_16)
  refine own_st st4 ?_
  replace E0 := E0.wr W4
  replace F0 := F0.other W4 (Or.inr (slot_ne (Or.inr (hw _ (List.mem_of_getElem? (i := 16) rfl))) (Or.inr (hw _ (List.mem_of_getElem? (i := 20) rfl))) (by decide) (t := .int) (t' := .int) (by decide) (by decide)))
  replace F1 := F1.other W4 (Or.inr (slot_ne (Or.inr (hw _ (List.mem_of_getElem? (i := 18) rfl))) (Or.inr (hw _ (List.mem_of_getElem? (i := 20) rfl))) (by decide) (t := .int) (t' := .int) (by decide) (by decide)))
  replace K0 := K0.wr W4 (Or.inl (by simp))
  replace N0 := Fr.snoc X4 N0 g_a0
  replace F2 := F2.same W4
  show own_Go p e below _ (T4.setTop (mkF m 19 #[.val (.ref a0), .val (.int p1), .val (.int p2), .val (.int p3)] []))
  exact own_retV X4 hx hlk hret (hb hby d1_19) ⟨rfl, N0, by rw [e4]; exact ⟨K0, F0, F1, F2⟩⟩ (by decide) (by decide)
def own_f_0 (q1 : Int64) (w1 : Int32) : Int32 := (if w1 < (0 : Int32) then (0 : Int32) else (if (2147483647 : Int64) < ((9 : Int64) + (w1.toInt64)) then (0 : Int32) else (if q1 < ((9 : Int64) + (w1.toInt64)) then (0 : Int32) else (1 : Int32))))
theorem d4_0 : decode prog_23_method_6_code 0 = .ok (.ldc2_w 57, 3) := by decide +kernel
theorem d4_3 : decode prog_23_method_6_code 3 = .ok (.aload_n 0, 1) := by decide +kernel
theorem d4_4 : decode prog_23_method_6_code 4 = .ok (.getfield 18, 3) := by decide +kernel
theorem d4_7 : decode prog_23_method_6_code 7 = .ok (.i2l, 1) := by decide +kernel
theorem d4_8 : decode prog_23_method_6_code 8 = .ok (.ladd, 1) := by decide +kernel
theorem d4_9 : decode prog_23_method_6_code 9 = .ok (.lstore_n 3, 1) := by decide +kernel
theorem d4_10 : decode prog_23_method_6_code 10 = .ok (.aload_n 0, 1) := by decide +kernel
theorem d4_11 : decode prog_23_method_6_code 11 = .ok (.getfield 18, 3) := by decide +kernel
theorem d4_14 : decode prog_23_method_6_code 14 = .ok (.ifCond .lt 21, 3) := by decide +kernel
theorem d4_17 : decode prog_23_method_6_code 17 = .ok (.lload_n 3, 1) := by decide +kernel
theorem d4_18 : decode prog_23_method_6_code 18 = .ok (.ldc2_w 61, 3) := by decide +kernel
theorem d4_21 : decode prog_23_method_6_code 21 = .ok (.lcmp, 1) := by decide +kernel
theorem d4_22 : decode prog_23_method_6_code 22 = .ok (.ifCond .gt 13, 3) := by decide +kernel
theorem d4_25 : decode prog_23_method_6_code 25 = .ok (.lload_n 3, 1) := by decide +kernel
theorem d4_26 : decode prog_23_method_6_code 26 = .ok (.lload_n 1, 1) := by decide +kernel
theorem d4_27 : decode prog_23_method_6_code 27 = .ok (.lcmp, 1) := by decide +kernel
theorem d4_28 : decode prog_23_method_6_code 28 = .ok (.ifCond .gt 7, 3) := by decide +kernel
theorem d4_31 : decode prog_23_method_6_code 31 = .ok (.iconst 1, 1) := by decide +kernel
theorem d4_32 : decode prog_23_method_6_code 32 = .ok (.goto 4, 3) := by decide +kernel
theorem d4_35 : decode prog_23_method_6_code 35 = .ok (.iconst 0, 1) := by decide +kernel
theorem d4_36 : decode prog_23_method_6_code 36 = .ok (.ireturn, 1) := by decide +kernel
theorem pn_4 : plainFor (⟨"com/example/rootward/rootward/log/LogFormat$FrameHeader", "fitsIn", "(J)Z"⟩ : MethodName) = true := plainFor_of_name (by first | (simp [plainName, overriddenIn]; done) | decide +kernel)
theorem ef_4 (m : MethodId) (x0 : Addr) (x1 : Int64) : entryFrame m #[(.ref x0), (.long x1)] 5 = mkF m 0 #[.val (.ref x0), .val (.long x1), .second, .unset, .unset] [] := by first | (simp [entryFrame, mkF, argsToLocals, Value.category]; done) | rfl
set_option maxRecDepth 65536 in
set_option maxHeartbeats 40000000 in
theorem rm4 (l : Launch) (Z : State) (tA : Array Value) (hw : ∀ d ∈ tables_1, d.before tA Z = true) (a0 : Addr) (q1 : Int64) (w1 : Int32) (h0 : Heap) (F0 : Fld Z h0 a0 "com/example/rootward/rootward/log/LogFormat$FrameHeader" "length" "I" (.int w1)) :
    own_Met l Z (⟨"com/example/rootward/rootward/log/LogFormat$FrameHeader", "fitsIn", "(J)Z"⟩ : MethodName) prog_23_method_6_code 5 (some .boolean) ({ frames := 0, cells := 0, slots := 0, locals := 0 } : Room) #[(.ref a0), (.long q1)] h0 (own_P (some (.int (own_f_0 q1 w1))) h0) := by
  refine own_body pn_4 ?_
  intro p e s m below meth c s₁ X0 hx hZ hby hml hown hret hlk hnm e0
  have B0 : ∀ (T0 : State), Stand p l e ({ frames := 0, cells := 0, slots := 0, locals := 0 } : Room) s m #[(.ref a0), (.long q1)] below meth c T0 [] 0 0 → T0.heap = h0 → own_f_0 q1 w1 = own_f_0 q1 w1 → own_Go p e below (own_Post s (own_P (some (.int (own_f_0 q1 w1))) h0) ({ frames := 0, cells := 0, slots := 0, locals := 0 } : Room).cells ({ frames := 0, cells := 0, slots := 0, locals := 0 } : Room).slots) (T0.setTop (mkF m 0 #[.val (.ref a0), .val (.long q1), .second, .unset, .unset] [])) := by
    intro T0 X0 e0 hbk
    show own_Go p e below _ (T0.setTop (mkF m 0 #[.val (.ref a0), .val (.long q1), .second, .unset, .unset] []))
    refine own_st (fun _ k => X0.ldc2Long hx hown (mvT hZ (hw _ (List.mem_of_getElem? (i := 26) rfl))) (g := (mkF m 0 #[.val (.ref a0), .val (.long q1), .second, .unset, .unset] [])) rfl (hb hby d4_0) _ k) ?_
    show own_Go p e below _ (T0.setTop (mkF m 3 #[.val (.ref a0), .val (.long q1), .second, .unset, .unset] [(.long (9 : Int64))]))
    refine own_st (fun _ k => XS.aloadN X0.here hx rfl (hb hby d4_3) rfl rfl k) ?_
    show own_Go p e below _ (T0.setTop (mkF m 4 #[.val (.ref a0), .val (.long q1), .second, .unset, .unset] [(.ref a0), (.long (9 : Int64))]))
    obtain ⟨T1, X1, e1, st1⟩ := getF X0 hx hZ hown (host := "") (Or.inl (hw _ (List.mem_of_getElem? (i := 19) rfl))) Via.refl e0 F0 (g := (mkF m 4 #[.val (.ref a0), .val (.long q1), .second, .unset, .unset] [(.ref a0), (.long (9 : Int64))])) rfl rfl (hb hby d4_4)
    refine own_st st1 ?_
    show own_Go p e below _ (T1.setTop (mkF m 7 #[.val (.ref a0), .val (.long q1), .second, .unset, .unset] [(.int w1), (.long (9 : Int64))]))
    refine own_st (fun _ k => XS.i2l X1.here hx rfl (hb hby d4_7) rfl k) ?_
    show own_Go p e below _ (T1.setTop (mkF m 8 #[.val (.ref a0), .val (.long q1), .second, .unset, .unset] [(.long (w1.toInt64)), (.long (9 : Int64))]))
    refine own_st (fun _ k => XS.ladd X1.here hx rfl (hb hby d4_8) rfl k) ?_
    show own_Go p e below _ (T1.setTop (mkF m 9 #[.val (.ref a0), .val (.long q1), .second, .unset, .unset] [(.long ((9 : Int64) + (w1.toInt64)))]))
    refine own_st (fun _ k => XS.lstoreN X1.here hx rfl (hb hby d4_9) rfl (l' := #[.val (.ref a0), .val (.long q1), .second, .val (.long ((9 : Int64) + (w1.toInt64))), .second]) rfl k) ?_
    show own_Go p e below _ (T1.setTop (mkF m 10 #[.val (.ref a0), .val (.long q1), .second, .val (.long ((9 : Int64) + (w1.toInt64))), .second] []))
    refine own_st (fun _ k => XS.aloadN X1.here hx rfl (hb hby d4_10) rfl rfl k) ?_
    show own_Go p e below _ (T1.setTop (mkF m 11 #[.val (.ref a0), .val (.long q1), .second, .val (.long ((9 : Int64) + (w1.toInt64))), .second] [(.ref a0)]))
    obtain ⟨T2, X2, e2, st2⟩ := getF X1 hx hZ hown (host := "") (Or.inl (hw _ (List.mem_of_getElem? (i := 19) rfl))) Via.refl e1 F0 (g := (mkF m 11 #[.val (.ref a0), .val (.long q1), .second, .val (.long ((9 : Int64) + (w1.toInt64))), .second] [(.ref a0)])) rfl rfl (hb hby d4_11)
    refine own_st st2 ?_
    show own_Go p e below _ (T2.setTop (mkF m 14 #[.val (.ref a0), .val (.long q1), .second, .val (.long ((9 : Int64) + (w1.toInt64))), .second] [(.int w1)]))
    by_cases hc14 : w1 < (0 : Int32)
    · refine own_st (fun _ k => XS.ifYes X2.here hx rfl (pc0 := 14) (pc' := 35) rfl (hb hby d4_14) rfl ((own_i0 _ _).trans (own_yes hc14)) (by decide) (by decide) k) ?_
      show own_Go p e below _ (T2.setTop (mkF m 35 #[.val (.ref a0), .val (.long q1), .second, .val (.long ((9 : Int64) + (w1.toInt64))), .second] []))
      refine own_st (fun _ k => XS.iconst X2.here hx rfl (hb hby d4_35) k) ?_
      show own_Go p e below _ (T2.setTop (mkF m 36 #[.val (.ref a0), .val (.long q1), .second, .val (.long ((9 : Int64) + (w1.toInt64))), .second] [(.int (0 : Int32))]))
      exact own_retZ X2 hx hlk hret rfl (hb hby d4_36) ⟨congrArg (fun z => some (Value.int z)) ((show own_f_0 q1 w1 = (0 : Int32) from (if_pos hc14)).symm.trans hbk), rfl, e2⟩ (by decide) (by decide)
    · refine own_st (fun _ k => XS.ifNo X2.here hx rfl (hb hby d4_14) rfl ((own_i0 _ _).trans (own_no hc14)) k) ?_
      show own_Go p e below _ (T2.setTop (mkF m 17 #[.val (.ref a0), .val (.long q1), .second, .val (.long ((9 : Int64) + (w1.toInt64))), .second] []))
      refine own_st (fun _ k => XS.lloadN X2.here hx rfl (hb hby d4_17) rfl k) ?_
      show own_Go p e below _ (T2.setTop (mkF m 18 #[.val (.ref a0), .val (.long q1), .second, .val (.long ((9 : Int64) + (w1.toInt64))), .second] [(.long ((9 : Int64) + (w1.toInt64)))]))
      refine own_st (fun _ k => X2.ldc2Long hx hown (mvT hZ (hw _ (List.mem_of_getElem? (i := 27) rfl))) (g := (mkF m 18 #[.val (.ref a0), .val (.long q1), .second, .val (.long ((9 : Int64) + (w1.toInt64))), .second] [(.long ((9 : Int64) + (w1.toInt64)))])) rfl (hb hby d4_18) _ k) ?_
      show own_Go p e below _ (T2.setTop (mkF m 21 #[.val (.ref a0), .val (.long q1), .second, .val (.long ((9 : Int64) + (w1.toInt64))), .second] [(.long (2147483647 : Int64)), (.long ((9 : Int64) + (w1.toInt64)))]))
      refine own_st (fun _ k => XS.lcmp X2.here hx rfl (hb hby d4_21) rfl k) ?_
      show own_Go p e below _ (T2.setTop (mkF m 22 #[.val (.ref a0), .val (.long q1), .second, .val (.long ((9 : Int64) + (w1.toInt64))), .second] [(.int (lcmpW ((9 : Int64) + (w1.toInt64)) (2147483647 : Int64)))]))
      by_cases hc22 : (2147483647 : Int64) < ((9 : Int64) + (w1.toInt64))
      · refine own_st (fun _ k => XS.ifYes X2.here hx rfl (pc0 := 22) (pc' := 35) rfl (hb hby d4_22) rfl ((own_l0 _ _ _).trans (own_yes hc22)) (by decide) (by decide) k) ?_
        show own_Go p e below _ (T2.setTop (mkF m 35 #[.val (.ref a0), .val (.long q1), .second, .val (.long ((9 : Int64) + (w1.toInt64))), .second] []))
        refine own_st (fun _ k => XS.iconst X2.here hx rfl (hb hby d4_35) k) ?_
        show own_Go p e below _ (T2.setTop (mkF m 36 #[.val (.ref a0), .val (.long q1), .second, .val (.long ((9 : Int64) + (w1.toInt64))), .second] [(.int (0 : Int32))]))
        exact own_retZ X2 hx hlk hret rfl (hb hby d4_36) ⟨congrArg (fun z => some (Value.int z)) ((show own_f_0 q1 w1 = (0 : Int32) from ((if_neg hc14)).trans ((if_pos hc22))).symm.trans hbk), rfl, e2⟩ (by decide) (by decide)
      · refine own_st (fun _ k => XS.ifNo X2.here hx rfl (hb hby d4_22) rfl ((own_l0 _ _ _).trans (own_no hc22)) k) ?_
        show own_Go p e below _ (T2.setTop (mkF m 25 #[.val (.ref a0), .val (.long q1), .second, .val (.long ((9 : Int64) + (w1.toInt64))), .second] []))
        refine own_st (fun _ k => XS.lloadN X2.here hx rfl (hb hby d4_25) rfl k) ?_
        show own_Go p e below _ (T2.setTop (mkF m 26 #[.val (.ref a0), .val (.long q1), .second, .val (.long ((9 : Int64) + (w1.toInt64))), .second] [(.long ((9 : Int64) + (w1.toInt64)))]))
        refine own_st (fun _ k => XS.lloadN X2.here hx rfl (hb hby d4_26) rfl k) ?_
        show own_Go p e below _ (T2.setTop (mkF m 27 #[.val (.ref a0), .val (.long q1), .second, .val (.long ((9 : Int64) + (w1.toInt64))), .second] [(.long q1), (.long ((9 : Int64) + (w1.toInt64)))]))
        refine own_st (fun _ k => XS.lcmp X2.here hx rfl (hb hby d4_27) rfl k) ?_
        show own_Go p e below _ (T2.setTop (mkF m 28 #[.val (.ref a0), .val (.long q1), .second, .val (.long ((9 : Int64) + (w1.toInt64))), .second] [(.int (lcmpW ((9 : Int64) + (w1.toInt64)) q1))]))
        by_cases hc28 : q1 < ((9 : Int64) + (w1.toInt64))
        · refine own_st (fun _ k => XS.ifYes X2.here hx rfl (pc0 := 28) (pc' := 35) rfl (hb hby d4_28) rfl ((own_l0 _ _ _).trans (own_yes hc28)) (by decide) (by decide) k) ?_
          show own_Go p e below _ (T2.setTop (mkF m 35 #[.val (.ref a0), .val (.long q1), .second, .val (.long ((9 : Int64) + (w1.toInt64))), .second] []))
          refine own_st (fun _ k => XS.iconst X2.here hx rfl (hb hby d4_35) k) ?_
          show own_Go p e below _ (T2.setTop (mkF m 36 #[.val (.ref a0), .val (.long q1), .second, .val (.long ((9 : Int64) + (w1.toInt64))), .second] [(.int (0 : Int32))]))
          exact own_retZ X2 hx hlk hret rfl (hb hby d4_36) ⟨congrArg (fun z => some (Value.int z)) ((show own_f_0 q1 w1 = (0 : Int32) from ((if_neg hc14)).trans (((if_neg hc22)).trans ((if_pos hc28)))).symm.trans hbk), rfl, e2⟩ (by decide) (by decide)
        · refine own_st (fun _ k => XS.ifNo X2.here hx rfl (hb hby d4_28) rfl ((own_l0 _ _ _).trans (own_no hc28)) k) ?_
          show own_Go p e below _ (T2.setTop (mkF m 31 #[.val (.ref a0), .val (.long q1), .second, .val (.long ((9 : Int64) + (w1.toInt64))), .second] []))
          refine own_st (fun _ k => XS.iconst X2.here hx rfl (hb hby d4_31) k) ?_
          show own_Go p e below _ (T2.setTop (mkF m 32 #[.val (.ref a0), .val (.long q1), .second, .val (.long ((9 : Int64) + (w1.toInt64))), .second] [(.int (1 : Int32))]))
          refine own_st (fun _ k => XS.goto X2.here hx rfl (pc0 := 32) (pc' := 36) rfl (hb hby d4_32) (by decide) (by decide) k) ?_
          show own_Go p e below _ (T2.setTop (mkF m 36 #[.val (.ref a0), .val (.long q1), .second, .val (.long ((9 : Int64) + (w1.toInt64))), .second] [(.int (1 : Int32))]))
          exact own_retZ X2 hx hlk hret rfl (hb hby d4_36) ⟨congrArg (fun z => some (Value.int z)) ((show own_f_0 q1 w1 = (1 : Int32) from ((if_neg hc14)).trans (((if_neg hc22)).trans ((if_neg hc28)))).symm.trans hbk), rfl, e2⟩ (by decide) (by decide)
  rw [ef_4]
  exact B0 _ X0 e0 rfl
def own_x_39 (p0 : Int32) (q1 : Int64) : Int32 := (0 : Int32)
def own_x_24 (p0 : Int32) (q1 : Int64) : Int32 := (if (q1 - (9 : Int64)) < (p0.toInt64) then (own_x_39 p0 q1) else (1 : Int32))
def own_x_14 (p0 : Int32) (q1 : Int64) : Int32 := (if q1 < (9 : Int64) then (0 : Int32) else (own_x_24 p0 q1))
def own_x_6 (p0 : Int32) (q1 : Int64) : Int32 := (if (2147483638 : Int32) < p0 then (0 : Int32) else (own_x_14 p0 q1))
def own_x_0 (p0 : Int32) (q1 : Int64) : Int32 := (if p0 < (0 : Int32) then (0 : Int32) else (own_x_6 p0 q1))
theorem d5_0 : decode method_2_code 0 = .ok (.iload_n 0, 1) := by decide +kernel
theorem d5_1 : decode method_2_code 1 = .ok (.ifCond .ge 5, 3) := by decide +kernel
theorem d5_4 : decode method_2_code 4 = .ok (.iconst 0, 1) := by decide +kernel
theorem d5_5 : decode method_2_code 5 = .ok (.ireturn, 1) := by decide +kernel
theorem d5_6 : decode method_2_code 6 = .ok (.iload_n 0, 1) := by decide +kernel
theorem d5_7 : decode method_2_code 7 = .ok (.ldc 7, 2) := by decide +kernel
theorem d5_9 : decode method_2_code 9 = .ok (.if_icmp .le 5, 3) := by decide +kernel
theorem d5_12 : decode method_2_code 12 = .ok (.iconst 0, 1) := by decide +kernel
theorem d5_13 : decode method_2_code 13 = .ok (.ireturn, 1) := by decide +kernel
theorem d5_14 : decode method_2_code 14 = .ok (.lload_n 1, 1) := by decide +kernel
theorem d5_15 : decode method_2_code 15 = .ok (.ldc2_w 8, 3) := by decide +kernel
theorem d5_18 : decode method_2_code 18 = .ok (.lcmp, 1) := by decide +kernel
theorem d5_19 : decode method_2_code 19 = .ok (.ifCond .ge 5, 3) := by decide +kernel
theorem d5_22 : decode method_2_code 22 = .ok (.iconst 0, 1) := by decide +kernel
theorem d5_23 : decode method_2_code 23 = .ok (.ireturn, 1) := by decide +kernel
theorem d5_24 : decode method_2_code 24 = .ok (.lload_n 1, 1) := by decide +kernel
theorem d5_25 : decode method_2_code 25 = .ok (.ldc2_w 8, 3) := by decide +kernel
theorem d5_28 : decode method_2_code 28 = .ok (.lsub, 1) := by decide +kernel
theorem d5_29 : decode method_2_code 29 = .ok (.iload_n 0, 1) := by decide +kernel
theorem d5_30 : decode method_2_code 30 = .ok (.i2l, 1) := by decide +kernel
theorem d5_31 : decode method_2_code 31 = .ok (.lcmp, 1) := by decide +kernel
theorem d5_32 : decode method_2_code 32 = .ok (.ifCond .lt 7, 3) := by decide +kernel
theorem d5_35 : decode method_2_code 35 = .ok (.iconst 1, 1) := by decide +kernel
theorem d5_36 : decode method_2_code 36 = .ok (.goto 4, 3) := by decide +kernel
theorem d5_39 : decode method_2_code 39 = .ok (.iconst 0, 1) := by decide +kernel
theorem d5_40 : decode method_2_code 40 = .ok (.ireturn, 1) := by decide +kernel
theorem pn_5 : plainFor (⟨"com/example/rootward/rootward/log/FrameHeaderFitsInPinLaw", "expected", "(IJ)Z"⟩ : MethodName) = true := plainFor_of_name (by first | (simp [plainName, overriddenIn]; done) | decide +kernel)
theorem ef_5 (m : MethodId) (x0 : Int32) (x1 : Int64) : entryFrame m #[(.int x0), (.long x1)] 3 = mkF m 0 #[.val (.int x0), .val (.long x1), .second] [] := by first | (simp [entryFrame, mkF, argsToLocals, Value.category]; done) | rfl
set_option maxRecDepth 65536 in
set_option maxHeartbeats 40000000 in
theorem rm5 (l : Launch) (Z : State) (tA : Array Value) (hw : ∀ d ∈ tables_1, d.before tA Z = true) (p0 : Int32) (q1 : Int64) (h0 : Heap) :
    own_Met l Z (⟨"com/example/rootward/rootward/log/FrameHeaderFitsInPinLaw", "expected", "(IJ)Z"⟩ : MethodName) method_2_code 3 (some .boolean) ({ frames := 0, cells := 0, slots := 0, locals := 0 } : Room) #[(.int p0), (.long q1)] h0 (own_P (some (.int (own_x_0 p0 q1))) h0) := by
  refine own_body pn_5 ?_
  intro p e s m below meth c s₁ X0 hx hZ hby hml hown hret hlk hnm e0
  have B39 : ∀ (T0 : State), Stand p l e ({ frames := 0, cells := 0, slots := 0, locals := 0 } : Room) s m #[(.int p0), (.long q1)] below meth c T0 [] 0 0 → T0.heap = h0 → own_x_39 p0 q1 = own_x_0 p0 q1 → own_Go p e below (own_Post s (own_P (some (.int (own_x_0 p0 q1))) h0) ({ frames := 0, cells := 0, slots := 0, locals := 0 } : Room).cells ({ frames := 0, cells := 0, slots := 0, locals := 0 } : Room).slots) (T0.setTop (mkF m 39 #[.val (.int p0), .val (.long q1), .second] [])) := by
    intro T0 X0 e0 hbk
    show own_Go p e below _ (T0.setTop (mkF m 39 #[.val (.int p0), .val (.long q1), .second] []))
    refine own_st (fun _ k => XS.iconst X0.here hx rfl (hb hby d5_39) k) ?_
    show own_Go p e below _ (T0.setTop (mkF m 40 #[.val (.int p0), .val (.long q1), .second] [(.int (0 : Int32))]))
    exact own_retZ X0 hx hlk hret rfl (hb hby d5_40) ⟨congrArg (fun z => some (Value.int z)) ((show own_x_39 p0 q1 = (0 : Int32) from rfl).symm.trans hbk), rfl, e0⟩ (by decide) (by decide)
  have B24 : ∀ (T0 : State), Stand p l e ({ frames := 0, cells := 0, slots := 0, locals := 0 } : Room) s m #[(.int p0), (.long q1)] below meth c T0 [] 0 0 → T0.heap = h0 → own_x_24 p0 q1 = own_x_0 p0 q1 → own_Go p e below (own_Post s (own_P (some (.int (own_x_0 p0 q1))) h0) ({ frames := 0, cells := 0, slots := 0, locals := 0 } : Room).cells ({ frames := 0, cells := 0, slots := 0, locals := 0 } : Room).slots) (T0.setTop (mkF m 24 #[.val (.int p0), .val (.long q1), .second] [])) := by
    intro T0 X0 e0 hbk
    show own_Go p e below _ (T0.setTop (mkF m 24 #[.val (.int p0), .val (.long q1), .second] []))
    refine own_st (fun _ k => XS.lloadN X0.here hx rfl (hb hby d5_24) rfl k) ?_
    show own_Go p e below _ (T0.setTop (mkF m 25 #[.val (.int p0), .val (.long q1), .second] [(.long q1)]))
    refine own_st (fun _ k => X0.ldc2Long hx hown (mvT hZ (hw _ (List.mem_of_getElem? (i := 32) rfl))) (g := (mkF m 25 #[.val (.int p0), .val (.long q1), .second] [(.long q1)])) rfl (hb hby d5_25) _ k) ?_
    show own_Go p e below _ (T0.setTop (mkF m 28 #[.val (.int p0), .val (.long q1), .second] [(.long (9 : Int64)), (.long q1)]))
    refine own_st (fun _ k => XS.lsub X0.here hx rfl (hb hby d5_28) rfl k) ?_
    show own_Go p e below _ (T0.setTop (mkF m 29 #[.val (.int p0), .val (.long q1), .second] [(.long (q1 - (9 : Int64)))]))
    refine own_st (fun _ k => XS.iloadN X0.here hx rfl (hb hby d5_29) rfl k) ?_
    show own_Go p e below _ (T0.setTop (mkF m 30 #[.val (.int p0), .val (.long q1), .second] [(.int p0), (.long (q1 - (9 : Int64)))]))
    refine own_st (fun _ k => XS.i2l X0.here hx rfl (hb hby d5_30) rfl k) ?_
    show own_Go p e below _ (T0.setTop (mkF m 31 #[.val (.int p0), .val (.long q1), .second] [(.long (p0.toInt64)), (.long (q1 - (9 : Int64)))]))
    refine own_st (fun _ k => XS.lcmp X0.here hx rfl (hb hby d5_31) rfl k) ?_
    show own_Go p e below _ (T0.setTop (mkF m 32 #[.val (.int p0), .val (.long q1), .second] [(.int (lcmpW (q1 - (9 : Int64)) (p0.toInt64)))]))
    by_cases hc32 : (q1 - (9 : Int64)) < (p0.toInt64)
    · refine own_st (fun _ k => XS.ifYes X0.here hx rfl (pc0 := 32) (pc' := 39) rfl (hb hby d5_32) rfl ((own_l0 _ _ _).trans (own_yes hc32)) (by decide) (by decide) k) ?_
      show own_Go p e below _ (T0.setTop (mkF m 39 #[.val (.int p0), .val (.long q1), .second] []))
      exact B39 T0 X0 e0 ((show own_x_24 p0 q1 = own_x_39 p0 q1 from (if_pos hc32)).symm.trans hbk)
    · refine own_st (fun _ k => XS.ifNo X0.here hx rfl (hb hby d5_32) rfl ((own_l0 _ _ _).trans (own_no hc32)) k) ?_
      show own_Go p e below _ (T0.setTop (mkF m 35 #[.val (.int p0), .val (.long q1), .second] []))
      refine own_st (fun _ k => XS.iconst X0.here hx rfl (hb hby d5_35) k) ?_
      show own_Go p e below _ (T0.setTop (mkF m 36 #[.val (.int p0), .val (.long q1), .second] [(.int (1 : Int32))]))
      refine own_st (fun _ k => XS.goto X0.here hx rfl (pc0 := 36) (pc' := 40) rfl (hb hby d5_36) (by decide) (by decide) k) ?_
      show own_Go p e below _ (T0.setTop (mkF m 40 #[.val (.int p0), .val (.long q1), .second] [(.int (1 : Int32))]))
      exact own_retZ X0 hx hlk hret rfl (hb hby d5_40) ⟨congrArg (fun z => some (Value.int z)) ((show own_x_24 p0 q1 = (1 : Int32) from (if_neg hc32)).symm.trans hbk), rfl, e0⟩ (by decide) (by decide)
  have B14 : ∀ (T0 : State), Stand p l e ({ frames := 0, cells := 0, slots := 0, locals := 0 } : Room) s m #[(.int p0), (.long q1)] below meth c T0 [] 0 0 → T0.heap = h0 → own_x_14 p0 q1 = own_x_0 p0 q1 → own_Go p e below (own_Post s (own_P (some (.int (own_x_0 p0 q1))) h0) ({ frames := 0, cells := 0, slots := 0, locals := 0 } : Room).cells ({ frames := 0, cells := 0, slots := 0, locals := 0 } : Room).slots) (T0.setTop (mkF m 14 #[.val (.int p0), .val (.long q1), .second] [])) := by
    intro T0 X0 e0 hbk
    show own_Go p e below _ (T0.setTop (mkF m 14 #[.val (.int p0), .val (.long q1), .second] []))
    refine own_st (fun _ k => XS.lloadN X0.here hx rfl (hb hby d5_14) rfl k) ?_
    show own_Go p e below _ (T0.setTop (mkF m 15 #[.val (.int p0), .val (.long q1), .second] [(.long q1)]))
    refine own_st (fun _ k => X0.ldc2Long hx hown (mvT hZ (hw _ (List.mem_of_getElem? (i := 32) rfl))) (g := (mkF m 15 #[.val (.int p0), .val (.long q1), .second] [(.long q1)])) rfl (hb hby d5_15) _ k) ?_
    show own_Go p e below _ (T0.setTop (mkF m 18 #[.val (.int p0), .val (.long q1), .second] [(.long (9 : Int64)), (.long q1)]))
    refine own_st (fun _ k => XS.lcmp X0.here hx rfl (hb hby d5_18) rfl k) ?_
    show own_Go p e below _ (T0.setTop (mkF m 19 #[.val (.int p0), .val (.long q1), .second] [(.int (lcmpW q1 (9 : Int64)))]))
    by_cases hc19 : q1 < (9 : Int64)
    · refine own_st (fun _ k => XS.ifNo X0.here hx rfl (hb hby d5_19) rfl ((own_l0 _ _ _).trans (own_nyes hc19)) k) ?_
      show own_Go p e below _ (T0.setTop (mkF m 22 #[.val (.int p0), .val (.long q1), .second] []))
      refine own_st (fun _ k => XS.iconst X0.here hx rfl (hb hby d5_22) k) ?_
      show own_Go p e below _ (T0.setTop (mkF m 23 #[.val (.int p0), .val (.long q1), .second] [(.int (0 : Int32))]))
      exact own_retZ X0 hx hlk hret rfl (hb hby d5_23) ⟨congrArg (fun z => some (Value.int z)) ((show own_x_14 p0 q1 = (0 : Int32) from (if_pos hc19)).symm.trans hbk), rfl, e0⟩ (by decide) (by decide)
    · refine own_st (fun _ k => XS.ifYes X0.here hx rfl (pc0 := 19) (pc' := 24) rfl (hb hby d5_19) rfl ((own_l0 _ _ _).trans (own_nno hc19)) (by decide) (by decide) k) ?_
      show own_Go p e below _ (T0.setTop (mkF m 24 #[.val (.int p0), .val (.long q1), .second] []))
      exact B24 T0 X0 e0 ((show own_x_14 p0 q1 = own_x_24 p0 q1 from (if_neg hc19)).symm.trans hbk)
  have B6 : ∀ (T0 : State), Stand p l e ({ frames := 0, cells := 0, slots := 0, locals := 0 } : Room) s m #[(.int p0), (.long q1)] below meth c T0 [] 0 0 → T0.heap = h0 → own_x_6 p0 q1 = own_x_0 p0 q1 → own_Go p e below (own_Post s (own_P (some (.int (own_x_0 p0 q1))) h0) ({ frames := 0, cells := 0, slots := 0, locals := 0 } : Room).cells ({ frames := 0, cells := 0, slots := 0, locals := 0 } : Room).slots) (T0.setTop (mkF m 6 #[.val (.int p0), .val (.long q1), .second] [])) := by
    intro T0 X0 e0 hbk
    show own_Go p e below _ (T0.setTop (mkF m 6 #[.val (.int p0), .val (.long q1), .second] []))
    refine own_st (fun _ k => XS.iloadN X0.here hx rfl (hb hby d5_6) rfl k) ?_
    show own_Go p e below _ (T0.setTop (mkF m 7 #[.val (.int p0), .val (.long q1), .second] [(.int p0)]))
    refine own_st (fun _ k => X0.ldcInt hx hown (mvT hZ (hw _ (List.mem_of_getElem? (i := 0) rfl))) (g := (mkF m 7 #[.val (.int p0), .val (.long q1), .second] [(.int p0)])) rfl (hb hby d5_7) _ k) ?_
    show own_Go p e below _ (T0.setTop (mkF m 9 #[.val (.int p0), .val (.long q1), .second] [(.int (2147483638 : Int32)), (.int p0)]))
    by_cases hc9 : (2147483638 : Int32) < p0
    · refine own_st (fun _ k => XS.icmpNo X0.here hx rfl (hb hby d5_9) rfl ((own_i2 _ _ _).trans (own_nyes hc9)) k) ?_
      show own_Go p e below _ (T0.setTop (mkF m 12 #[.val (.int p0), .val (.long q1), .second] []))
      refine own_st (fun _ k => XS.iconst X0.here hx rfl (hb hby d5_12) k) ?_
      show own_Go p e below _ (T0.setTop (mkF m 13 #[.val (.int p0), .val (.long q1), .second] [(.int (0 : Int32))]))
      exact own_retZ X0 hx hlk hret rfl (hb hby d5_13) ⟨congrArg (fun z => some (Value.int z)) ((show own_x_6 p0 q1 = (0 : Int32) from (if_pos hc9)).symm.trans hbk), rfl, e0⟩ (by decide) (by decide)
    · refine own_st (fun _ k => XS.icmpYes X0.here hx rfl (pc0 := 9) (pc' := 14) rfl (hb hby d5_9) rfl ((own_i2 _ _ _).trans (own_nno hc9)) (by decide) (by decide) k) ?_
      show own_Go p e below _ (T0.setTop (mkF m 14 #[.val (.int p0), .val (.long q1), .second] []))
      exact B14 T0 X0 e0 ((show own_x_6 p0 q1 = own_x_14 p0 q1 from (if_neg hc9)).symm.trans hbk)
  have B0 : ∀ (T0 : State), Stand p l e ({ frames := 0, cells := 0, slots := 0, locals := 0 } : Room) s m #[(.int p0), (.long q1)] below meth c T0 [] 0 0 → T0.heap = h0 → own_x_0 p0 q1 = own_x_0 p0 q1 → own_Go p e below (own_Post s (own_P (some (.int (own_x_0 p0 q1))) h0) ({ frames := 0, cells := 0, slots := 0, locals := 0 } : Room).cells ({ frames := 0, cells := 0, slots := 0, locals := 0 } : Room).slots) (T0.setTop (mkF m 0 #[.val (.int p0), .val (.long q1), .second] [])) := by
    intro T0 X0 e0 hbk
    show own_Go p e below _ (T0.setTop (mkF m 0 #[.val (.int p0), .val (.long q1), .second] []))
    refine own_st (fun _ k => XS.iloadN X0.here hx rfl (hb hby d5_0) rfl k) ?_
    show own_Go p e below _ (T0.setTop (mkF m 1 #[.val (.int p0), .val (.long q1), .second] [(.int p0)]))
    by_cases hc1 : p0 < (0 : Int32)
    · refine own_st (fun _ k => XS.ifNo X0.here hx rfl (hb hby d5_1) rfl ((own_i0 _ _).trans (own_nyes hc1)) k) ?_
      show own_Go p e below _ (T0.setTop (mkF m 4 #[.val (.int p0), .val (.long q1), .second] []))
      refine own_st (fun _ k => XS.iconst X0.here hx rfl (hb hby d5_4) k) ?_
      show own_Go p e below _ (T0.setTop (mkF m 5 #[.val (.int p0), .val (.long q1), .second] [(.int (0 : Int32))]))
      exact own_retZ X0 hx hlk hret rfl (hb hby d5_5) ⟨congrArg (fun z => some (Value.int z)) ((show own_x_0 p0 q1 = (0 : Int32) from (if_pos hc1)).symm.trans hbk), rfl, e0⟩ (by decide) (by decide)
    · refine own_st (fun _ k => XS.ifYes X0.here hx rfl (pc0 := 1) (pc' := 6) rfl (hb hby d5_1) rfl ((own_i0 _ _).trans (own_nno hc1)) (by decide) (by decide) k) ?_
      show own_Go p e below _ (T0.setTop (mkF m 6 #[.val (.int p0), .val (.long q1), .second] []))
      exact B6 T0 X0 e0 ((show own_x_0 p0 q1 = own_x_6 p0 q1 from (if_neg hc1)).symm.trans hbk)
  rw [ef_5]
  exact B0 _ X0 e0 rfl
theorem own_law (q : Int64) (w : Int32) : own_f_0 q w = own_x_0 w q := by
  have k0 : (0 : Int32).toInt = 0 := rfl
  have k1 : (2147483638 : Int32).toInt = 2147483638 := rfl
  have k2 : (2147483647 : Int64).toInt = 2147483647 := rfl
  have k3 : (9 : Int64).toInt = 9 := rfl
  have r1 := rng32 w
  have r2 := rng64 q
  have e1 := c_i2l w
  have e2 := c_ladd 9 w.toInt64
  have e3 := rng64 ((9 : Int64) + w.toInt64)
  have e4 : ((9 : Int64) + w.toInt64).toInt = 9 + w.toInt := by omega
  have e5 := c_lsub q 9
  have e6 := rng64 (q - 9)
  by_cases h1 : w < (0 : Int32)
  · exact (show own_f_0 q w = 0 from if_pos h1).trans (show own_x_0 w q = 0 from if_pos h1).symm
  by_cases h2 : (2147483638 : Int32) < w
  · have h3 : (2147483647 : Int64) < ((9 : Int64) + w.toInt64) := by
      rw [Int64.lt_iff_toInt_lt]; rw [Int32.lt_iff_toInt_lt] at h2; omega
    exact (show own_f_0 q w = 0 from (if_neg h1).trans (if_pos h3)).trans (show own_x_0 w q = 0 from (if_neg h1).trans (if_pos h2)).symm
  have h3 : ¬ (2147483647 : Int64) < ((9 : Int64) + w.toInt64) := by
    rw [Int64.lt_iff_toInt_lt]; rw [Int32.lt_iff_toInt_lt] at h2; omega
  rw [Int32.lt_iff_toInt_lt] at h1
  by_cases h4 : q < (9 : Int64)
  · have h5 : q < ((9 : Int64) + w.toInt64) := by
      rw [Int64.lt_iff_toInt_lt] at h4 ⊢; omega
    exact (show own_f_0 q w = 0 from (if_neg (by rw [Int32.lt_iff_toInt_lt]; exact h1)).trans ((if_neg h3).trans (if_pos h5))).trans (show own_x_0 w q = 0 from (if_neg (by rw [Int32.lt_iff_toInt_lt]; exact h1)).trans ((if_neg h2).trans (if_pos h4))).symm
  have h1' : ¬ w < (0 : Int32) := by rw [Int32.lt_iff_toInt_lt]; exact h1
  by_cases h5 : q < ((9 : Int64) + w.toInt64)
  · have h6 : (q - (9 : Int64)) < w.toInt64 := by
      rw [Int64.lt_iff_toInt_lt] at h4 h5 ⊢; omega
    exact (show own_f_0 q w = 0 from (if_neg h1').trans ((if_neg h3).trans (if_pos h5))).trans (show own_x_0 w q = 0 from (if_neg h1').trans ((if_neg h2).trans ((if_neg h4).trans (if_pos h6)))).symm
  · have h6 : ¬ (q - (9 : Int64)) < w.toInt64 := by
      rw [Int64.lt_iff_toInt_lt] at h4 h5 ⊢; omega
    exact (show own_f_0 q w = 1 from (if_neg h1').trans ((if_neg h3).trans (if_neg h5))).trans (show own_x_0 w q = 1 from (if_neg h1').trans ((if_neg h2).trans ((if_neg h4).trans (if_neg h6)))).symm
theorem pn_0 : plainFor (⟨"com/example/rootward/rootward/log/FrameHeaderFitsInPinLaw", "law", "(IIIJII)Z"⟩ : MethodName) = true := plainFor_of_name (by first | (simp [plainName, overriddenIn]; done) | decide +kernel)
theorem ef_0 (m : MethodId) (x0 : Int32) (x1 : Int32) (x2 : Int32) (x3 : Int64) (x4 : Int32) (x5 : Int32) : entryFrame m #[(.int x0), (.int x1), (.int x2), (.long x3), (.int x4), (.int x5)] maxLocals = mkF m 0 #[.val (.int x0), .val (.int x1), .val (.int x2), .val (.long x3), .second, .val (.int x4), .val (.int x5), .unset, .unset, .unset, .unset, .unset, .unset, .unset] [] := by first | (simp [entryFrame, mkF, argsToLocals, Value.category, maxLocals]; done) | rfl
set_option maxRecDepth 65536 in
set_option maxHeartbeats 40000000 in
theorem rm0 (l : Launch) (Z : State) (tA : Array Value) (hw : ∀ d ∈ tables_1, d.before tA Z = true) (p0 : Int32) (p1 : Int32) (p2 : Int32) (q3 : Int64) (p4 : Int32) (p5 : Int32) (h0 : Heap) (n0 : Nat) (Z0 : n0 ≤ h0.size) :
    MetFree l x (head1 (Jvm.Cond.code x code maxLocals ret :: tables_1) room_1) (fun a U => a = #[(.int p0), (.int p1), (.int p2), (.long q3), (.int p4), (.int p5)] ∧ Z.Warmed39 U.vm ∧ U.heap = h0) (fun _ _ _ _ _ => True) (fun _ U o U' => own_Post U (fun v _ L => v = some (.int (1 : Int32)) ∧ Fr n0 L) 16 128 o U') := by
  refine own_body pn_0 ?_
  intro p e s m below meth c s₁ X0 hx hZ hby hml hown hret hlk hnm e0
  have N0 := Fr.nil n0
  rw [ef_0]
  show own_Go p e below _ (s₁.setTop (mkF m 0 #[.val (.int p0), .val (.int p1), .val (.int p2), .val (.long q3), .second, .val (.int p4), .val (.int p5), .unset, .unset, .unset, .unset, .unset, .unset, .unset] []))
  refine own_st (fun _ k => XS.iload X0.here hx rfl (hb hby at_0) rfl k) ?_
  show own_Go p e below _ (s₁.setTop (mkF m 2 #[.val (.int p0), .val (.int p1), .val (.int p2), .val (.long q3), .second, .val (.int p4), .val (.int p5), .unset, .unset, .unset, .unset, .unset, .unset, .unset] [(.int p4)]))
  refine own_st (fun _ k => XS.iconst X0.here hx rfl (hb hby at_2) k) ?_
  show own_Go p e below _ (s₁.setTop (mkF m 3 #[.val (.int p0), .val (.int p1), .val (.int p2), .val (.long q3), .second, .val (.int p4), .val (.int p5), .unset, .unset, .unset, .unset, .unset, .unset, .unset] [(.int (4 : Int32)), (.int p4)]))
  refine own_st (fun _ k => iremM X0 hx rfl (hb hby at_3) rfl (by decide) k) ?_
  show own_Go p e below _ (s₁.setTop (mkF m 4 #[.val (.int p0), .val (.int p1), .val (.int p2), .val (.long q3), .second, .val (.int p4), .val (.int p5), .unset, .unset, .unset, .unset, .unset, .unset, .unset] [(.int (p4 % (4 : Int32)))]))
  refine own_st (fun _ k => XS.istore X0.here hx rfl (hb hby at_4) rfl (l' := #[.val (.int p0), .val (.int p1), .val (.int p2), .val (.long q3), .second, .val (.int p4), .val (.int p5), .val (.int (p4 % (4 : Int32))), .unset, .unset, .unset, .unset, .unset, .unset]) rfl k) ?_
  show own_Go p e below _ (s₁.setTop (mkF m 6 #[.val (.int p0), .val (.int p1), .val (.int p2), .val (.long q3), .second, .val (.int p4), .val (.int p5), .val (.int (p4 % (4 : Int32))), .unset, .unset, .unset, .unset, .unset, .unset] []))
  refine own_st (fun _ k => XS.iload X0.here hx rfl (hb hby at_6) rfl k) ?_
  show own_Go p e below _ (s₁.setTop (mkF m 8 #[.val (.int p0), .val (.int p1), .val (.int p2), .val (.long q3), .second, .val (.int p4), .val (.int p5), .val (.int (p4 % (4 : Int32))), .unset, .unset, .unset, .unset, .unset, .unset] [(.int p4)]))
  refine own_st (fun _ k => XS.iconst X0.here hx rfl (hb hby at_8) k) ?_
  show own_Go p e below _ (s₁.setTop (mkF m 9 #[.val (.int p0), .val (.int p1), .val (.int p2), .val (.long q3), .second, .val (.int p4), .val (.int p5), .val (.int (p4 % (4 : Int32))), .unset, .unset, .unset, .unset, .unset, .unset] [(.int (4 : Int32)), (.int p4)]))
  refine own_st (fun _ k => XS.ishr X0.here hx rfl (hb hby at_9) rfl k) ?_
  show own_Go p e below _ (s₁.setTop (mkF m 10 #[.val (.int p0), .val (.int p1), .val (.int p2), .val (.long q3), .second, .val (.int p4), .val (.int p5), .val (.int (p4 % (4 : Int32))), .unset, .unset, .unset, .unset, .unset, .unset] [(.int (p4 >>> ((4 : Int32) &&& 31)))]))
  refine own_st (fun _ k => XS.iconst X0.here hx rfl (hb hby at_10) k) ?_
  show own_Go p e below _ (s₁.setTop (mkF m 11 #[.val (.int p0), .val (.int p1), .val (.int p2), .val (.long q3), .second, .val (.int p4), .val (.int p5), .val (.int (p4 % (4 : Int32))), .unset, .unset, .unset, .unset, .unset, .unset] [(.int (4 : Int32)), (.int (p4 >>> ((4 : Int32) &&& 31)))]))
  refine own_st (fun _ k => iremM X0 hx rfl (hb hby at_11) rfl (by decide) k) ?_
  show own_Go p e below _ (s₁.setTop (mkF m 12 #[.val (.int p0), .val (.int p1), .val (.int p2), .val (.long q3), .second, .val (.int p4), .val (.int p5), .val (.int (p4 % (4 : Int32))), .unset, .unset, .unset, .unset, .unset, .unset] [(.int ((p4 >>> ((4 : Int32) &&& 31)) % (4 : Int32)))]))
  refine own_st (fun _ k => XS.istore X0.here hx rfl (hb hby at_12) rfl (l' := #[.val (.int p0), .val (.int p1), .val (.int p2), .val (.long q3), .second, .val (.int p4), .val (.int p5), .val (.int (p4 % (4 : Int32))), .val (.int ((p4 >>> ((4 : Int32) &&& 31)) % (4 : Int32))), .unset, .unset, .unset, .unset, .unset]) rfl k) ?_
  show own_Go p e below _ (s₁.setTop (mkF m 14 #[.val (.int p0), .val (.int p1), .val (.int p2), .val (.long q3), .second, .val (.int p4), .val (.int p5), .val (.int (p4 % (4 : Int32))), .val (.int ((p4 >>> ((4 : Int32) &&& 31)) % (4 : Int32))), .unset, .unset, .unset, .unset, .unset] []))
  refine own_st (fun _ k => XS.iloadN X0.here hx rfl (hb hby at_14) rfl k) ?_
  show own_Go p e below _ (s₁.setTop (mkF m 15 #[.val (.int p0), .val (.int p1), .val (.int p2), .val (.long q3), .second, .val (.int p4), .val (.int p5), .val (.int (p4 % (4 : Int32))), .val (.int ((p4 >>> ((4 : Int32) &&& 31)) % (4 : Int32))), .unset, .unset, .unset, .unset, .unset] [(.int p2)]))
  refine own_st (fun _ k => XS.istore X0.here hx rfl (hb hby at_15) rfl (l' := #[.val (.int p0), .val (.int p1), .val (.int p2), .val (.long q3), .second, .val (.int p4), .val (.int p5), .val (.int (p4 % (4 : Int32))), .val (.int ((p4 >>> ((4 : Int32) &&& 31)) % (4 : Int32))), .val (.int p2), .unset, .unset, .unset, .unset]) rfl k) ?_
  show own_Go p e below _ (s₁.setTop (mkF m 17 #[.val (.int p0), .val (.int p1), .val (.int p2), .val (.long q3), .second, .val (.int p4), .val (.int p5), .val (.int (p4 % (4 : Int32))), .val (.int ((p4 >>> ((4 : Int32) &&& 31)) % (4 : Int32))), .val (.int p2), .unset, .unset, .unset, .unset] []))
  refine own_st (fun _ k => XS.iload X0.here hx rfl (hb hby at_17) rfl k) ?_
  show own_Go p e below _ (s₁.setTop (mkF m 19 #[.val (.int p0), .val (.int p1), .val (.int p2), .val (.long q3), .second, .val (.int p4), .val (.int p5), .val (.int (p4 % (4 : Int32))), .val (.int ((p4 >>> ((4 : Int32) &&& 31)) % (4 : Int32))), .val (.int p2), .unset, .unset, .unset, .unset] [(.int p5)]))
  refine own_st (fun _ k => XS.iconst X0.here hx rfl (hb hby at_19) k) ?_
  show own_Go p e below _ (s₁.setTop (mkF m 20 #[.val (.int p0), .val (.int p1), .val (.int p2), .val (.long q3), .second, .val (.int p4), .val (.int p5), .val (.int (p4 % (4 : Int32))), .val (.int ((p4 >>> ((4 : Int32) &&& 31)) % (4 : Int32))), .val (.int p2), .unset, .unset, .unset, .unset] [(.int (2 : Int32)), (.int p5)]))
  refine own_st (fun _ k => XS.iand X0.here hx rfl (hb hby at_20) rfl k) ?_
  show own_Go p e below _ (s₁.setTop (mkF m 21 #[.val (.int p0), .val (.int p1), .val (.int p2), .val (.long q3), .second, .val (.int p4), .val (.int p5), .val (.int (p4 % (4 : Int32))), .val (.int ((p4 >>> ((4 : Int32) &&& 31)) % (4 : Int32))), .val (.int p2), .unset, .unset, .unset, .unset] [(.int (p5 &&& (2 : Int32)))]))
  by_cases hc21 : (p5 &&& (2 : Int32)) = (0 : Int32)
  · refine own_st (fun _ k => XS.ifYes X0.here hx rfl (pc0 := 21) (pc' := 31) rfl (hb hby at_21) rfl ((own_i0 _ _).trans (own_yes hc21)) (by decide) (by decide) k) ?_
    show own_Go p e below _ (s₁.setTop (mkF m 31 #[.val (.int p0), .val (.int p1), .val (.int p2), .val (.long q3), .second, .val (.int p4), .val (.int p5), .val (.int (p4 % (4 : Int32))), .val (.int ((p4 >>> ((4 : Int32) &&& 31)) % (4 : Int32))), .val (.int p2), .unset, .unset, .unset, .unset] []))
    refine own_st (fun _ k => XS.lloadN X0.here hx rfl (hb hby at_31) rfl k) ?_
    show own_Go p e below _ (s₁.setTop (mkF m 32 #[.val (.int p0), .val (.int p1), .val (.int p2), .val (.long q3), .second, .val (.int p4), .val (.int p5), .val (.int (p4 % (4 : Int32))), .val (.int ((p4 >>> ((4 : Int32) &&& 31)) % (4 : Int32))), .val (.int p2), .unset, .unset, .unset, .unset] [(.long q3)]))
    refine own_st (fun _ k => XS.lstore X0.here hx rfl (hb hby at_32) rfl (l' := #[.val (.int p0), .val (.int p1), .val (.int p2), .val (.long q3), .second, .val (.int p4), .val (.int p5), .val (.int (p4 % (4 : Int32))), .val (.int ((p4 >>> ((4 : Int32) &&& 31)) % (4 : Int32))), .val (.int p2), .val (.long q3), .second, .unset, .unset]) rfl k) ?_
    show own_Go p e below _ (s₁.setTop (mkF m 34 #[.val (.int p0), .val (.int p1), .val (.int p2), .val (.long q3), .second, .val (.int p4), .val (.int p5), .val (.int (p4 % (4 : Int32))), .val (.int ((p4 >>> ((4 : Int32) &&& 31)) % (4 : Int32))), .val (.int p2), .val (.long q3), .second, .unset, .unset] []))
    refine own_st (fun _ k => XS.iload X0.here hx rfl (hb hby at_34) rfl k) ?_
    show own_Go p e below _ (s₁.setTop (mkF m 36 #[.val (.int p0), .val (.int p1), .val (.int p2), .val (.long q3), .second, .val (.int p4), .val (.int p5), .val (.int (p4 % (4 : Int32))), .val (.int ((p4 >>> ((4 : Int32) &&& 31)) % (4 : Int32))), .val (.int p2), .val (.long q3), .second, .unset, .unset] [(.int p5)]))
    refine own_st (fun _ k => XS.iconst X0.here hx rfl (hb hby at_36) k) ?_
    show own_Go p e below _ (s₁.setTop (mkF m 37 #[.val (.int p0), .val (.int p1), .val (.int p2), .val (.long q3), .second, .val (.int p4), .val (.int p5), .val (.int (p4 % (4 : Int32))), .val (.int ((p4 >>> ((4 : Int32) &&& 31)) % (4 : Int32))), .val (.int p2), .val (.long q3), .second, .unset, .unset] [(.int (1 : Int32)), (.int p5)]))
    refine own_st (fun _ k => XS.iand X0.here hx rfl (hb hby at_37) rfl k) ?_
    show own_Go p e below _ (s₁.setTop (mkF m 38 #[.val (.int p0), .val (.int p1), .val (.int p2), .val (.long q3), .second, .val (.int p4), .val (.int p5), .val (.int (p4 % (4 : Int32))), .val (.int ((p4 >>> ((4 : Int32) &&& 31)) % (4 : Int32))), .val (.int p2), .val (.long q3), .second, .unset, .unset] [(.int (p5 &&& (1 : Int32)))]))
    by_cases hc38 : (p5 &&& (1 : Int32)) = (0 : Int32)
    · refine own_st (fun _ k => XS.ifYes X0.here hx rfl (pc0 := 38) (pc' := 54) rfl (hb hby at_38) rfl ((own_i0 _ _).trans (own_yes hc38)) (by decide) (by decide) k) ?_
      show own_Go p e below _ (s₁.setTop (mkF m 54 #[.val (.int p0), .val (.int p1), .val (.int p2), .val (.long q3), .second, .val (.int p4), .val (.int p5), .val (.int (p4 % (4 : Int32))), .val (.int ((p4 >>> ((4 : Int32) &&& 31)) % (4 : Int32))), .val (.int p2), .val (.long q3), .second, .unset, .unset] []))
      obtain ⟨T1, h1, X1, e1, E1, A1, D1, -, st1⟩ := newO X0 hx hZ hown (hw _ (List.mem_of_getElem? (i := 1) rfl)) (hw _ (List.mem_of_getElem? (i := 2) rfl)) (hw _ (List.mem_of_getElem? (i := 3) rfl)) e0 (g := (mkF m 54 #[.val (.int p0), .val (.int p1), .val (.int p2), .val (.long q3), .second, .val (.int p4), .val (.int p5), .val (.int (p4 % (4 : Int32))), .val (.int ((p4 >>> ((4 : Int32) &&& 31)) % (4 : Int32))), .val (.int p2), .val (.long q3), .second, .unset, .unset] [])) rfl (hb hby at_54) (by decide) (by decide)
      refine own_st st1 ?_
      obtain ⟨b1, g1⟩ : ∃ z, z = h0.size := ⟨_, rfl⟩
      rw [← g1] at A1 D1 ⊢
      have g_b1 : n0 ≤ b1 := Nat.le_trans Z0 (Nat.le_of_eq g1.symm)
      replace Z0 := Nat.le_trans Z0 E1.1
      have F_checksum_b1 : Fld Z h1 b1 "com/example/rootward/rootward/log/LogFormat$FrameHeader" "checksum" "I" (.int (0 : Int32)) := D1 (Or.inr (hw _ (List.mem_of_getElem? (i := 16) rfl))) (ty := .int) (by decide)
      have F_type_b1 : Fld Z h1 b1 "com/example/rootward/rootward/log/LogFormat$FrameHeader" "type" "I" (.int (0 : Int32)) := D1 (Or.inr (hw _ (List.mem_of_getElem? (i := 18) rfl))) (ty := .int) (by decide)
      have F_length_b1 : Fld Z h1 b1 "com/example/rootward/rootward/log/LogFormat$FrameHeader" "length" "I" (.int (0 : Int32)) := D1 (Or.inr (hw _ (List.mem_of_getElem? (i := 20) rfl))) (ty := .int) (by decide)
      show own_Go p e below _ (T1.setTop (mkF m 57 #[.val (.int p0), .val (.int p1), .val (.int p2), .val (.long q3), .second, .val (.int p4), .val (.int p5), .val (.int (p4 % (4 : Int32))), .val (.int ((p4 >>> ((4 : Int32) &&& 31)) % (4 : Int32))), .val (.int p2), .val (.long q3), .second, .unset, .unset] [(.ref b1)]))
      refine own_st (fun _ k => XS.dup X1.here hx rfl (hb hby at_57) rfl rfl k) ?_
      show own_Go p e below _ (T1.setTop (mkF m 58 #[.val (.int p0), .val (.int p1), .val (.int p2), .val (.long q3), .second, .val (.int p4), .val (.int p5), .val (.int (p4 % (4 : Int32))), .val (.int ((p4 >>> ((4 : Int32) &&& 31)) % (4 : Int32))), .val (.int p2), .val (.long q3), .second, .unset, .unset] [(.ref b1), (.ref b1)]))
      refine own_st (fun _ k => XS.iloadN X1.here hx rfl (hb hby at_58) rfl k) ?_
      show own_Go p e below _ (T1.setTop (mkF m 59 #[.val (.int p0), .val (.int p1), .val (.int p2), .val (.long q3), .second, .val (.int p4), .val (.int p5), .val (.int (p4 % (4 : Int32))), .val (.int ((p4 >>> ((4 : Int32) &&& 31)) % (4 : Int32))), .val (.int p2), .val (.long q3), .second, .unset, .unset] [(.int p0), (.ref b1), (.ref b1)]))
      refine own_st (fun _ k => XS.iloadN X1.here hx rfl (hb hby at_59) rfl k) ?_
      show own_Go p e below _ (T1.setTop (mkF m 60 #[.val (.int p0), .val (.int p1), .val (.int p2), .val (.long q3), .second, .val (.int p4), .val (.int p5), .val (.int (p4 % (4 : Int32))), .val (.int ((p4 >>> ((4 : Int32) &&& 31)) % (4 : Int32))), .val (.int p2), .val (.long q3), .second, .unset, .unset] [(.int p1), (.int p0), (.ref b1), (.ref b1)]))
      refine own_st (fun _ k => XS.iload X1.here hx rfl (hb hby at_60) rfl k) ?_
      show own_Go p e below _ (T1.setTop (mkF m 62 #[.val (.int p0), .val (.int p1), .val (.int p2), .val (.long q3), .second, .val (.int p4), .val (.int p5), .val (.int (p4 % (4 : Int32))), .val (.int ((p4 >>> ((4 : Int32) &&& 31)) % (4 : Int32))), .val (.int p2), .val (.long q3), .second, .unset, .unset] [(.int p2), (.int p1), (.int p0), (.ref b1), (.ref b1)]))
      obtain ⟨_, T2, L2, X2, hQ2, st2⟩ := own_callI X1 hx hZ (y := (⟨"com/example/rootward/rootward/log/LogFormat$FrameHeader", "<init>", "(III)V"⟩ : MethodName)) (a := b1) (argsL := [(.int p0), (.int p1), (.int p2)]) (rest := [(.ref b1)]) (W := 1) (g := (mkF m 62 #[.val (.int p0), .val (.int p1), .val (.int p2), .val (.long q3), .second, .val (.int p4), .val (.int p5), .val (.int (p4 % (4 : Int32))), .val (.int ((p4 >>> ((4 : Int32) &&& 31)) % (4 : Int32))), .val (.int p2), .val (.long q3), .second, .unset, .unset] [(.int p2), (.int p1), (.int p0), (.ref b1), (.ref b1)])) (rm1 l Z tA hw b1 p0 p1 p2 h1 n0 g_b1 A1 F_checksum_b1 F_type_b1 F_length_b1) rfl hown (hw _ (List.mem_of_getElem? (i := 4) rfl)) (hw _ (List.mem_of_getElem? (i := 5) rfl)) (hw _ (List.mem_of_getElem? (i := 3) rfl)) (hw _ (List.mem_of_getElem? (i := 6) rfl)) (by decide) e1 rfl (by rw [hml]; rfl) pd_0 rfl rfl (by show 2 * 0 + _ ≤ _; exact Nat.le_of_eq rfl) (hb hby at_62) (by decide) (by decide) (by decide) (by decide)
      obtain ⟨h2, e2⟩ : ∃ z, T2.heap = z := ⟨_, rfl⟩
      rw [e2] at hQ2
      obtain ⟨rfl, Nq2, Kq2, Fq2_0, Fq2_1, Fq2_2⟩ := hQ2
      replace A1 := A1.keep Kq2
      replace Z0 := Nat.le_trans Z0 Kq2.1
      replace N0 := Fr.app N0 Nq2
      refine own_st st2 ?_
      show own_Go p e below _ (T2.setTop (mkF m 65 #[.val (.int p0), .val (.int p1), .val (.int p2), .val (.long q3), .second, .val (.int p4), .val (.int p5), .val (.int (p4 % (4 : Int32))), .val (.int ((p4 >>> ((4 : Int32) &&& 31)) % (4 : Int32))), .val (.int p2), .val (.long q3), .second, .unset, .unset] [(.ref b1)]))
      refine own_st (fun _ k => XS.astore X2.here hx rfl (hb hby at_65) rfl rfl (l' := #[.val (.int p0), .val (.int p1), .val (.int p2), .val (.long q3), .second, .val (.int p4), .val (.int p5), .val (.int (p4 % (4 : Int32))), .val (.int ((p4 >>> ((4 : Int32) &&& 31)) % (4 : Int32))), .val (.int p2), .val (.long q3), .second, .val (.ref b1), .unset]) rfl k) ?_
      show own_Go p e below _ (T2.setTop (mkF m 67 #[.val (.int p0), .val (.int p1), .val (.int p2), .val (.long q3), .second, .val (.int p4), .val (.int p5), .val (.int (p4 % (4 : Int32))), .val (.int ((p4 >>> ((4 : Int32) &&& 31)) % (4 : Int32))), .val (.int p2), .val (.long q3), .second, .val (.ref b1), .unset] []))
      refine own_st (fun _ k => XS.aload X2.here hx rfl (hb hby at_67) rfl rfl k) ?_
      show own_Go p e below _ (T2.setTop (mkF m 69 #[.val (.int p0), .val (.int p1), .val (.int p2), .val (.long q3), .second, .val (.int p4), .val (.int p5), .val (.int (p4 % (4 : Int32))), .val (.int ((p4 >>> ((4 : Int32) &&& 31)) % (4 : Int32))), .val (.int p2), .val (.long q3), .second, .val (.ref b1), .unset] [(.ref b1)]))
      refine own_st (fun _ k => XS.lload X2.here hx rfl (hb hby at_69) rfl k) ?_
      show own_Go p e below _ (T2.setTop (mkF m 71 #[.val (.int p0), .val (.int p1), .val (.int p2), .val (.long q3), .second, .val (.int p4), .val (.int p5), .val (.int (p4 % (4 : Int32))), .val (.int ((p4 >>> ((4 : Int32) &&& 31)) % (4 : Int32))), .val (.int p2), .val (.long q3), .second, .val (.ref b1), .unset] [(.long q3), (.ref b1)]))
      obtain ⟨_, T3, _, X3, ⟨rfl, rfl, e3⟩, st3⟩ := own_callV X2 hx hZ (y := (⟨"com/example/rootward/rootward/log/LogFormat$FrameHeader", "fitsIn", "(J)Z"⟩ : MethodName)) (a := b1) (argsL := [(.long q3)]) (rest := []) (W := 0) (g := (mkF m 71 #[.val (.int p0), .val (.int p1), .val (.int p2), .val (.long q3), .second, .val (.int p4), .val (.int p5), .val (.int (p4 % (4 : Int32))), .val (.int ((p4 >>> ((4 : Int32) &&& 31)) % (4 : Int32))), .val (.int p2), .val (.long q3), .second, .val (.ref b1), .unset] [(.long q3), (.ref b1)])) (rm4 l Z tA hw b1 q3 p2 h2 Fq2_2) A1 hown (hw _ (List.mem_of_getElem? (i := 21) rfl)) (hw _ (List.mem_of_getElem? (i := 22) rfl)) (hw _ (List.mem_of_getElem? (i := 24) rfl)) (hw _ (List.mem_of_getElem? (i := 23) rfl)) (hw _ (List.mem_of_getElem? (i := 3) rfl)) (hw _ (List.mem_of_getElem? (i := 25) rfl)) (by decide) e2 rfl (by rw [hml]; rfl) pd_2 rfl rfl (by show 2 * 0 + _ ≤ _; exact Nat.le_of_eq rfl) (hb hby at_71) (by decide) (by decide) (by decide) (by decide)
      replace X3 := own_flat X3
      refine own_st st3 ?_
      show own_Go p e below _ (T3.setTop (mkF m 74 #[.val (.int p0), .val (.int p1), .val (.int p2), .val (.long q3), .second, .val (.int p4), .val (.int p5), .val (.int (p4 % (4 : Int32))), .val (.int ((p4 >>> ((4 : Int32) &&& 31)) % (4 : Int32))), .val (.int p2), .val (.long q3), .second, .val (.ref b1), .unset] [(.int (own_f_0 q3 p2))]))
      refine own_st (fun _ k => XS.istore X3.here hx rfl (hb hby at_74) rfl (l' := #[.val (.int p0), .val (.int p1), .val (.int p2), .val (.long q3), .second, .val (.int p4), .val (.int p5), .val (.int (p4 % (4 : Int32))), .val (.int ((p4 >>> ((4 : Int32) &&& 31)) % (4 : Int32))), .val (.int p2), .val (.long q3), .second, .val (.ref b1), .val (.int (own_f_0 q3 p2))]) rfl k) ?_
      show own_Go p e below _ (T3.setTop (mkF m 76 #[.val (.int p0), .val (.int p1), .val (.int p2), .val (.long q3), .second, .val (.int p4), .val (.int p5), .val (.int (p4 % (4 : Int32))), .val (.int ((p4 >>> ((4 : Int32) &&& 31)) % (4 : Int32))), .val (.int p2), .val (.long q3), .second, .val (.ref b1), .val (.int (own_f_0 q3 p2))] []))
      refine own_st (fun _ k => XS.iload X3.here hx rfl (hb hby at_76) rfl k) ?_
      show own_Go p e below _ (T3.setTop (mkF m 78 #[.val (.int p0), .val (.int p1), .val (.int p2), .val (.long q3), .second, .val (.int p4), .val (.int p5), .val (.int (p4 % (4 : Int32))), .val (.int ((p4 >>> ((4 : Int32) &&& 31)) % (4 : Int32))), .val (.int p2), .val (.long q3), .second, .val (.ref b1), .val (.int (own_f_0 q3 p2))] [(.int (own_f_0 q3 p2))]))
      refine own_st (fun _ k => XS.iload X3.here hx rfl (hb hby at_78) rfl k) ?_
      show own_Go p e below _ (T3.setTop (mkF m 80 #[.val (.int p0), .val (.int p1), .val (.int p2), .val (.long q3), .second, .val (.int p4), .val (.int p5), .val (.int (p4 % (4 : Int32))), .val (.int ((p4 >>> ((4 : Int32) &&& 31)) % (4 : Int32))), .val (.int p2), .val (.long q3), .second, .val (.ref b1), .val (.int (own_f_0 q3 p2))] [(.int p2), (.int (own_f_0 q3 p2))]))
      refine own_st (fun _ k => XS.lload X3.here hx rfl (hb hby at_80) rfl k) ?_
      show own_Go p e below _ (T3.setTop (mkF m 82 #[.val (.int p0), .val (.int p1), .val (.int p2), .val (.long q3), .second, .val (.int p4), .val (.int p5), .val (.int (p4 % (4 : Int32))), .val (.int ((p4 >>> ((4 : Int32) &&& 31)) % (4 : Int32))), .val (.int p2), .val (.long q3), .second, .val (.ref b1), .val (.int (own_f_0 q3 p2))] [(.long q3), (.int p2), (.int (own_f_0 q3 p2))]))
      obtain ⟨_, T4, _, X4, ⟨rfl, rfl, e4⟩, st4⟩ := own_callS X3 hx hZ (y := (⟨"com/example/rootward/rootward/log/FrameHeaderFitsInPinLaw", "expected", "(IJ)Z"⟩ : MethodName)) (argsL := [(.int p2), (.long q3)]) (rest := [(.int (own_f_0 q3 p2))]) (W := 1) (g := (mkF m 82 #[.val (.int p0), .val (.int p1), .val (.int p2), .val (.long q3), .second, .val (.int p4), .val (.int p5), .val (.int (p4 % (4 : Int32))), .val (.int ((p4 >>> ((4 : Int32) &&& 31)) % (4 : Int32))), .val (.int p2), .val (.long q3), .second, .val (.ref b1), .val (.int (own_f_0 q3 p2))] [(.long q3), (.int p2), (.int (own_f_0 q3 p2))])) (rm5 l Z tA hw p2 q3 h2) hown (hw _ (List.mem_of_getElem? (i := 28) rfl)) (hw _ (List.mem_of_getElem? (i := 29) rfl)) (hw _ (List.mem_of_getElem? (i := 30) rfl)) (hw _ (List.mem_of_getElem? (i := 31) rfl)) (by decide) e3 rfl (by rw [hml]; rfl) pd_3 rfl rfl (by show 2 * 0 + _ ≤ _; exact Nat.le_of_eq rfl) (hb hby at_82) (by decide) (by decide) (by decide) (by decide)
      replace X4 := own_flat X4
      refine own_st st4 ?_
      show own_Go p e below _ (T4.setTop (mkF m 85 #[.val (.int p0), .val (.int p1), .val (.int p2), .val (.long q3), .second, .val (.int p4), .val (.int p5), .val (.int (p4 % (4 : Int32))), .val (.int ((p4 >>> ((4 : Int32) &&& 31)) % (4 : Int32))), .val (.int p2), .val (.long q3), .second, .val (.ref b1), .val (.int (own_f_0 q3 p2))] [(.int (own_x_0 p2 q3)), (.int (own_f_0 q3 p2))]))
      refine own_st (fun _ k => XS.icmpNo X4.here hx rfl (hb hby at_85) rfl ((own_i2 _ _ _).trans (own_nyes (own_law _ _))) k) ?_
      show own_Go p e below _ (T4.setTop (mkF m 88 #[.val (.int p0), .val (.int p1), .val (.int p2), .val (.long q3), .second, .val (.int p4), .val (.int p5), .val (.int (p4 % (4 : Int32))), .val (.int ((p4 >>> ((4 : Int32) &&& 31)) % (4 : Int32))), .val (.int p2), .val (.long q3), .second, .val (.ref b1), .val (.int (own_f_0 q3 p2))] []))
      refine own_st (fun _ k => XS.iconst X4.here hx rfl (hb hby at_88) k) ?_
      show own_Go p e below _ (T4.setTop (mkF m 89 #[.val (.int p0), .val (.int p1), .val (.int p2), .val (.long q3), .second, .val (.int p4), .val (.int p5), .val (.int (p4 % (4 : Int32))), .val (.int ((p4 >>> ((4 : Int32) &&& 31)) % (4 : Int32))), .val (.int p2), .val (.long q3), .second, .val (.ref b1), .val (.int (own_f_0 q3 p2))] [(.int (1 : Int32))]))
      refine own_st (fun _ k => XS.goto X4.here hx rfl (pc0 := 89) (pc' := 93) rfl (hb hby at_89) (by decide) (by decide) k) ?_
      show own_Go p e below _ (T4.setTop (mkF m 93 #[.val (.int p0), .val (.int p1), .val (.int p2), .val (.long q3), .second, .val (.int p4), .val (.int p5), .val (.int (p4 % (4 : Int32))), .val (.int ((p4 >>> ((4 : Int32) &&& 31)) % (4 : Int32))), .val (.int p2), .val (.long q3), .second, .val (.ref b1), .val (.int (own_f_0 q3 p2))] [(.int (1 : Int32))]))
      exact own_retZ X4 hx hlk hret rfl (hb hby at_93) ⟨rfl, N0⟩ (by decide) (by decide)
    · refine own_st (fun _ k => XS.ifNo X0.here hx rfl (hb hby at_38) rfl ((own_i0 _ _).trans (own_no hc38)) k) ?_
      show own_Go p e below _ (s₁.setTop (mkF m 41 #[.val (.int p0), .val (.int p1), .val (.int p2), .val (.long q3), .second, .val (.int p4), .val (.int p5), .val (.int (p4 % (4 : Int32))), .val (.int ((p4 >>> ((4 : Int32) &&& 31)) % (4 : Int32))), .val (.int p2), .val (.long q3), .second, .unset, .unset] []))
      refine own_st (fun _ k => X0.ldc2Long hx hown (mvT hZ (hw _ (List.mem_of_getElem? (i := 32) rfl))) (g := (mkF m 41 #[.val (.int p0), .val (.int p1), .val (.int p2), .val (.long q3), .second, .val (.int p4), .val (.int p5), .val (.int (p4 % (4 : Int32))), .val (.int ((p4 >>> ((4 : Int32) &&& 31)) % (4 : Int32))), .val (.int p2), .val (.long q3), .second, .unset, .unset] [])) rfl (hb hby at_41) _ k) ?_
      show own_Go p e below _ (s₁.setTop (mkF m 44 #[.val (.int p0), .val (.int p1), .val (.int p2), .val (.long q3), .second, .val (.int p4), .val (.int p5), .val (.int (p4 % (4 : Int32))), .val (.int ((p4 >>> ((4 : Int32) &&& 31)) % (4 : Int32))), .val (.int p2), .val (.long q3), .second, .unset, .unset] [(.long (9 : Int64))]))
      refine own_st (fun _ k => XS.iload X0.here hx rfl (hb hby at_44) rfl k) ?_
      show own_Go p e below _ (s₁.setTop (mkF m 46 #[.val (.int p0), .val (.int p1), .val (.int p2), .val (.long q3), .second, .val (.int p4), .val (.int p5), .val (.int (p4 % (4 : Int32))), .val (.int ((p4 >>> ((4 : Int32) &&& 31)) % (4 : Int32))), .val (.int p2), .val (.long q3), .second, .unset, .unset] [(.int p2), (.long (9 : Int64))]))
      refine own_st (fun _ k => XS.i2l X0.here hx rfl (hb hby at_46) rfl k) ?_
      show own_Go p e below _ (s₁.setTop (mkF m 47 #[.val (.int p0), .val (.int p1), .val (.int p2), .val (.long q3), .second, .val (.int p4), .val (.int p5), .val (.int (p4 % (4 : Int32))), .val (.int ((p4 >>> ((4 : Int32) &&& 31)) % (4 : Int32))), .val (.int p2), .val (.long q3), .second, .unset, .unset] [(.long (p2.toInt64)), (.long (9 : Int64))]))
      refine own_st (fun _ k => XS.ladd X0.here hx rfl (hb hby at_47) rfl k) ?_
      show own_Go p e below _ (s₁.setTop (mkF m 48 #[.val (.int p0), .val (.int p1), .val (.int p2), .val (.long q3), .second, .val (.int p4), .val (.int p5), .val (.int (p4 % (4 : Int32))), .val (.int ((p4 >>> ((4 : Int32) &&& 31)) % (4 : Int32))), .val (.int p2), .val (.long q3), .second, .unset, .unset] [(.long ((9 : Int64) + (p2.toInt64)))]))
      refine own_st (fun _ k => XS.iload X0.here hx rfl (hb hby at_48) rfl k) ?_
      show own_Go p e below _ (s₁.setTop (mkF m 50 #[.val (.int p0), .val (.int p1), .val (.int p2), .val (.long q3), .second, .val (.int p4), .val (.int p5), .val (.int (p4 % (4 : Int32))), .val (.int ((p4 >>> ((4 : Int32) &&& 31)) % (4 : Int32))), .val (.int p2), .val (.long q3), .second, .unset, .unset] [(.int ((p4 >>> ((4 : Int32) &&& 31)) % (4 : Int32))), (.long ((9 : Int64) + (p2.toInt64)))]))
      refine own_st (fun _ k => XS.i2l X0.here hx rfl (hb hby at_50) rfl k) ?_
      show own_Go p e below _ (s₁.setTop (mkF m 51 #[.val (.int p0), .val (.int p1), .val (.int p2), .val (.long q3), .second, .val (.int p4), .val (.int p5), .val (.int (p4 % (4 : Int32))), .val (.int ((p4 >>> ((4 : Int32) &&& 31)) % (4 : Int32))), .val (.int p2), .val (.long q3), .second, .unset, .unset] [(.long (((p4 >>> ((4 : Int32) &&& 31)) % (4 : Int32)).toInt64)), (.long ((9 : Int64) + (p2.toInt64)))]))
      refine own_st (fun _ k => XS.ladd X0.here hx rfl (hb hby at_51) rfl k) ?_
      show own_Go p e below _ (s₁.setTop (mkF m 52 #[.val (.int p0), .val (.int p1), .val (.int p2), .val (.long q3), .second, .val (.int p4), .val (.int p5), .val (.int (p4 % (4 : Int32))), .val (.int ((p4 >>> ((4 : Int32) &&& 31)) % (4 : Int32))), .val (.int p2), .val (.long q3), .second, .unset, .unset] [(.long (((9 : Int64) + (p2.toInt64)) + (((p4 >>> ((4 : Int32) &&& 31)) % (4 : Int32)).toInt64)))]))
      refine own_st (fun _ k => XS.lstore X0.here hx rfl (hb hby at_52) rfl (l' := #[.val (.int p0), .val (.int p1), .val (.int p2), .val (.long q3), .second, .val (.int p4), .val (.int p5), .val (.int (p4 % (4 : Int32))), .val (.int ((p4 >>> ((4 : Int32) &&& 31)) % (4 : Int32))), .val (.int p2), .val (.long (((9 : Int64) + (p2.toInt64)) + (((p4 >>> ((4 : Int32) &&& 31)) % (4 : Int32)).toInt64))), .second, .unset, .unset]) rfl k) ?_
      show own_Go p e below _ (s₁.setTop (mkF m 54 #[.val (.int p0), .val (.int p1), .val (.int p2), .val (.long q3), .second, .val (.int p4), .val (.int p5), .val (.int (p4 % (4 : Int32))), .val (.int ((p4 >>> ((4 : Int32) &&& 31)) % (4 : Int32))), .val (.int p2), .val (.long (((9 : Int64) + (p2.toInt64)) + (((p4 >>> ((4 : Int32) &&& 31)) % (4 : Int32)).toInt64))), .second, .unset, .unset] []))
      obtain ⟨T5, h5, X5, e5, E5, A5, D5, -, st5⟩ := newO X0 hx hZ hown (hw _ (List.mem_of_getElem? (i := 1) rfl)) (hw _ (List.mem_of_getElem? (i := 2) rfl)) (hw _ (List.mem_of_getElem? (i := 3) rfl)) e0 (g := (mkF m 54 #[.val (.int p0), .val (.int p1), .val (.int p2), .val (.long q3), .second, .val (.int p4), .val (.int p5), .val (.int (p4 % (4 : Int32))), .val (.int ((p4 >>> ((4 : Int32) &&& 31)) % (4 : Int32))), .val (.int p2), .val (.long (((9 : Int64) + (p2.toInt64)) + (((p4 >>> ((4 : Int32) &&& 31)) % (4 : Int32)).toInt64))), .second, .unset, .unset] [])) rfl (hb hby at_54) (by decide) (by decide)
      refine own_st st5 ?_
      obtain ⟨b5, g5⟩ : ∃ z, z = h0.size := ⟨_, rfl⟩
      rw [← g5] at A5 D5 ⊢
      have g_b5 : n0 ≤ b5 := Nat.le_trans Z0 (Nat.le_of_eq g5.symm)
      replace Z0 := Nat.le_trans Z0 E5.1
      have F_checksum_b5 : Fld Z h5 b5 "com/example/rootward/rootward/log/LogFormat$FrameHeader" "checksum" "I" (.int (0 : Int32)) := D5 (Or.inr (hw _ (List.mem_of_getElem? (i := 16) rfl))) (ty := .int) (by decide)
      have F_type_b5 : Fld Z h5 b5 "com/example/rootward/rootward/log/LogFormat$FrameHeader" "type" "I" (.int (0 : Int32)) := D5 (Or.inr (hw _ (List.mem_of_getElem? (i := 18) rfl))) (ty := .int) (by decide)
      have F_length_b5 : Fld Z h5 b5 "com/example/rootward/rootward/log/LogFormat$FrameHeader" "length" "I" (.int (0 : Int32)) := D5 (Or.inr (hw _ (List.mem_of_getElem? (i := 20) rfl))) (ty := .int) (by decide)
      show own_Go p e below _ (T5.setTop (mkF m 57 #[.val (.int p0), .val (.int p1), .val (.int p2), .val (.long q3), .second, .val (.int p4), .val (.int p5), .val (.int (p4 % (4 : Int32))), .val (.int ((p4 >>> ((4 : Int32) &&& 31)) % (4 : Int32))), .val (.int p2), .val (.long (((9 : Int64) + (p2.toInt64)) + (((p4 >>> ((4 : Int32) &&& 31)) % (4 : Int32)).toInt64))), .second, .unset, .unset] [(.ref b5)]))
      refine own_st (fun _ k => XS.dup X5.here hx rfl (hb hby at_57) rfl rfl k) ?_
      show own_Go p e below _ (T5.setTop (mkF m 58 #[.val (.int p0), .val (.int p1), .val (.int p2), .val (.long q3), .second, .val (.int p4), .val (.int p5), .val (.int (p4 % (4 : Int32))), .val (.int ((p4 >>> ((4 : Int32) &&& 31)) % (4 : Int32))), .val (.int p2), .val (.long (((9 : Int64) + (p2.toInt64)) + (((p4 >>> ((4 : Int32) &&& 31)) % (4 : Int32)).toInt64))), .second, .unset, .unset] [(.ref b5), (.ref b5)]))
      refine own_st (fun _ k => XS.iloadN X5.here hx rfl (hb hby at_58) rfl k) ?_
      show own_Go p e below _ (T5.setTop (mkF m 59 #[.val (.int p0), .val (.int p1), .val (.int p2), .val (.long q3), .second, .val (.int p4), .val (.int p5), .val (.int (p4 % (4 : Int32))), .val (.int ((p4 >>> ((4 : Int32) &&& 31)) % (4 : Int32))), .val (.int p2), .val (.long (((9 : Int64) + (p2.toInt64)) + (((p4 >>> ((4 : Int32) &&& 31)) % (4 : Int32)).toInt64))), .second, .unset, .unset] [(.int p0), (.ref b5), (.ref b5)]))
      refine own_st (fun _ k => XS.iloadN X5.here hx rfl (hb hby at_59) rfl k) ?_
      show own_Go p e below _ (T5.setTop (mkF m 60 #[.val (.int p0), .val (.int p1), .val (.int p2), .val (.long q3), .second, .val (.int p4), .val (.int p5), .val (.int (p4 % (4 : Int32))), .val (.int ((p4 >>> ((4 : Int32) &&& 31)) % (4 : Int32))), .val (.int p2), .val (.long (((9 : Int64) + (p2.toInt64)) + (((p4 >>> ((4 : Int32) &&& 31)) % (4 : Int32)).toInt64))), .second, .unset, .unset] [(.int p1), (.int p0), (.ref b5), (.ref b5)]))
      refine own_st (fun _ k => XS.iload X5.here hx rfl (hb hby at_60) rfl k) ?_
      show own_Go p e below _ (T5.setTop (mkF m 62 #[.val (.int p0), .val (.int p1), .val (.int p2), .val (.long q3), .second, .val (.int p4), .val (.int p5), .val (.int (p4 % (4 : Int32))), .val (.int ((p4 >>> ((4 : Int32) &&& 31)) % (4 : Int32))), .val (.int p2), .val (.long (((9 : Int64) + (p2.toInt64)) + (((p4 >>> ((4 : Int32) &&& 31)) % (4 : Int32)).toInt64))), .second, .unset, .unset] [(.int p2), (.int p1), (.int p0), (.ref b5), (.ref b5)]))
      obtain ⟨_, T6, L6, X6, hQ6, st6⟩ := own_callI X5 hx hZ (y := (⟨"com/example/rootward/rootward/log/LogFormat$FrameHeader", "<init>", "(III)V"⟩ : MethodName)) (a := b5) (argsL := [(.int p0), (.int p1), (.int p2)]) (rest := [(.ref b5)]) (W := 1) (g := (mkF m 62 #[.val (.int p0), .val (.int p1), .val (.int p2), .val (.long q3), .second, .val (.int p4), .val (.int p5), .val (.int (p4 % (4 : Int32))), .val (.int ((p4 >>> ((4 : Int32) &&& 31)) % (4 : Int32))), .val (.int p2), .val (.long (((9 : Int64) + (p2.toInt64)) + (((p4 >>> ((4 : Int32) &&& 31)) % (4 : Int32)).toInt64))), .second, .unset, .unset] [(.int p2), (.int p1), (.int p0), (.ref b5), (.ref b5)])) (rm1 l Z tA hw b5 p0 p1 p2 h5 n0 g_b5 A5 F_checksum_b5 F_type_b5 F_length_b5) rfl hown (hw _ (List.mem_of_getElem? (i := 4) rfl)) (hw _ (List.mem_of_getElem? (i := 5) rfl)) (hw _ (List.mem_of_getElem? (i := 3) rfl)) (hw _ (List.mem_of_getElem? (i := 6) rfl)) (by decide) e5 rfl (by rw [hml]; rfl) pd_0 rfl rfl (by show 2 * 0 + _ ≤ _; exact Nat.le_of_eq rfl) (hb hby at_62) (by decide) (by decide) (by decide) (by decide)
      obtain ⟨h6, e6⟩ : ∃ z, T6.heap = z := ⟨_, rfl⟩
      rw [e6] at hQ6
      obtain ⟨rfl, Nq6, Kq6, Fq6_0, Fq6_1, Fq6_2⟩ := hQ6
      replace A5 := A5.keep Kq6
      replace Z0 := Nat.le_trans Z0 Kq6.1
      replace N0 := Fr.app N0 Nq6
      refine own_st st6 ?_
      show own_Go p e below _ (T6.setTop (mkF m 65 #[.val (.int p0), .val (.int p1), .val (.int p2), .val (.long q3), .second, .val (.int p4), .val (.int p5), .val (.int (p4 % (4 : Int32))), .val (.int ((p4 >>> ((4 : Int32) &&& 31)) % (4 : Int32))), .val (.int p2), .val (.long (((9 : Int64) + (p2.toInt64)) + (((p4 >>> ((4 : Int32) &&& 31)) % (4 : Int32)).toInt64))), .second, .unset, .unset] [(.ref b5)]))
      refine own_st (fun _ k => XS.astore X6.here hx rfl (hb hby at_65) rfl rfl (l' := #[.val (.int p0), .val (.int p1), .val (.int p2), .val (.long q3), .second, .val (.int p4), .val (.int p5), .val (.int (p4 % (4 : Int32))), .val (.int ((p4 >>> ((4 : Int32) &&& 31)) % (4 : Int32))), .val (.int p2), .val (.long (((9 : Int64) + (p2.toInt64)) + (((p4 >>> ((4 : Int32) &&& 31)) % (4 : Int32)).toInt64))), .second, .val (.ref b5), .unset]) rfl k) ?_
      show own_Go p e below _ (T6.setTop (mkF m 67 #[.val (.int p0), .val (.int p1), .val (.int p2), .val (.long q3), .second, .val (.int p4), .val (.int p5), .val (.int (p4 % (4 : Int32))), .val (.int ((p4 >>> ((4 : Int32) &&& 31)) % (4 : Int32))), .val (.int p2), .val (.long (((9 : Int64) + (p2.toInt64)) + (((p4 >>> ((4 : Int32) &&& 31)) % (4 : Int32)).toInt64))), .second, .val (.ref b5), .unset] []))
      refine own_st (fun _ k => XS.aload X6.here hx rfl (hb hby at_67) rfl rfl k) ?_
      show own_Go p e below _ (T6.setTop (mkF m 69 #[.val (.int p0), .val (.int p1), .val (.int p2), .val (.long q3), .second, .val (.int p4), .val (.int p5), .val (.int (p4 % (4 : Int32))), .val (.int ((p4 >>> ((4 : Int32) &&& 31)) % (4 : Int32))), .val (.int p2), .val (.long (((9 : Int64) + (p2.toInt64)) + (((p4 >>> ((4 : Int32) &&& 31)) % (4 : Int32)).toInt64))), .second, .val (.ref b5), .unset] [(.ref b5)]))
      refine own_st (fun _ k => XS.lload X6.here hx rfl (hb hby at_69) rfl k) ?_
      show own_Go p e below _ (T6.setTop (mkF m 71 #[.val (.int p0), .val (.int p1), .val (.int p2), .val (.long q3), .second, .val (.int p4), .val (.int p5), .val (.int (p4 % (4 : Int32))), .val (.int ((p4 >>> ((4 : Int32) &&& 31)) % (4 : Int32))), .val (.int p2), .val (.long (((9 : Int64) + (p2.toInt64)) + (((p4 >>> ((4 : Int32) &&& 31)) % (4 : Int32)).toInt64))), .second, .val (.ref b5), .unset] [(.long (((9 : Int64) + (p2.toInt64)) + (((p4 >>> ((4 : Int32) &&& 31)) % (4 : Int32)).toInt64))), (.ref b5)]))
      obtain ⟨_, T7, _, X7, ⟨rfl, rfl, e7⟩, st7⟩ := own_callV X6 hx hZ (y := (⟨"com/example/rootward/rootward/log/LogFormat$FrameHeader", "fitsIn", "(J)Z"⟩ : MethodName)) (a := b5) (argsL := [(.long (((9 : Int64) + (p2.toInt64)) + (((p4 >>> ((4 : Int32) &&& 31)) % (4 : Int32)).toInt64)))]) (rest := []) (W := 0) (g := (mkF m 71 #[.val (.int p0), .val (.int p1), .val (.int p2), .val (.long q3), .second, .val (.int p4), .val (.int p5), .val (.int (p4 % (4 : Int32))), .val (.int ((p4 >>> ((4 : Int32) &&& 31)) % (4 : Int32))), .val (.int p2), .val (.long (((9 : Int64) + (p2.toInt64)) + (((p4 >>> ((4 : Int32) &&& 31)) % (4 : Int32)).toInt64))), .second, .val (.ref b5), .unset] [(.long (((9 : Int64) + (p2.toInt64)) + (((p4 >>> ((4 : Int32) &&& 31)) % (4 : Int32)).toInt64))), (.ref b5)])) (rm4 l Z tA hw b5 (((9 : Int64) + (p2.toInt64)) + (((p4 >>> ((4 : Int32) &&& 31)) % (4 : Int32)).toInt64)) p2 h6 Fq6_2) A5 hown (hw _ (List.mem_of_getElem? (i := 21) rfl)) (hw _ (List.mem_of_getElem? (i := 22) rfl)) (hw _ (List.mem_of_getElem? (i := 24) rfl)) (hw _ (List.mem_of_getElem? (i := 23) rfl)) (hw _ (List.mem_of_getElem? (i := 3) rfl)) (hw _ (List.mem_of_getElem? (i := 25) rfl)) (by decide) e6 rfl (by rw [hml]; rfl) pd_2 rfl rfl (by show 2 * 0 + _ ≤ _; exact Nat.le_of_eq rfl) (hb hby at_71) (by decide) (by decide) (by decide) (by decide)
      replace X7 := own_flat X7
      refine own_st st7 ?_
      show own_Go p e below _ (T7.setTop (mkF m 74 #[.val (.int p0), .val (.int p1), .val (.int p2), .val (.long q3), .second, .val (.int p4), .val (.int p5), .val (.int (p4 % (4 : Int32))), .val (.int ((p4 >>> ((4 : Int32) &&& 31)) % (4 : Int32))), .val (.int p2), .val (.long (((9 : Int64) + (p2.toInt64)) + (((p4 >>> ((4 : Int32) &&& 31)) % (4 : Int32)).toInt64))), .second, .val (.ref b5), .unset] [(.int (own_f_0 (((9 : Int64) + (p2.toInt64)) + (((p4 >>> ((4 : Int32) &&& 31)) % (4 : Int32)).toInt64)) p2))]))
      refine own_st (fun _ k => XS.istore X7.here hx rfl (hb hby at_74) rfl (l' := #[.val (.int p0), .val (.int p1), .val (.int p2), .val (.long q3), .second, .val (.int p4), .val (.int p5), .val (.int (p4 % (4 : Int32))), .val (.int ((p4 >>> ((4 : Int32) &&& 31)) % (4 : Int32))), .val (.int p2), .val (.long (((9 : Int64) + (p2.toInt64)) + (((p4 >>> ((4 : Int32) &&& 31)) % (4 : Int32)).toInt64))), .second, .val (.ref b5), .val (.int (own_f_0 (((9 : Int64) + (p2.toInt64)) + (((p4 >>> ((4 : Int32) &&& 31)) % (4 : Int32)).toInt64)) p2))]) rfl k) ?_
      show own_Go p e below _ (T7.setTop (mkF m 76 #[.val (.int p0), .val (.int p1), .val (.int p2), .val (.long q3), .second, .val (.int p4), .val (.int p5), .val (.int (p4 % (4 : Int32))), .val (.int ((p4 >>> ((4 : Int32) &&& 31)) % (4 : Int32))), .val (.int p2), .val (.long (((9 : Int64) + (p2.toInt64)) + (((p4 >>> ((4 : Int32) &&& 31)) % (4 : Int32)).toInt64))), .second, .val (.ref b5), .val (.int (own_f_0 (((9 : Int64) + (p2.toInt64)) + (((p4 >>> ((4 : Int32) &&& 31)) % (4 : Int32)).toInt64)) p2))] []))
      refine own_st (fun _ k => XS.iload X7.here hx rfl (hb hby at_76) rfl k) ?_
      show own_Go p e below _ (T7.setTop (mkF m 78 #[.val (.int p0), .val (.int p1), .val (.int p2), .val (.long q3), .second, .val (.int p4), .val (.int p5), .val (.int (p4 % (4 : Int32))), .val (.int ((p4 >>> ((4 : Int32) &&& 31)) % (4 : Int32))), .val (.int p2), .val (.long (((9 : Int64) + (p2.toInt64)) + (((p4 >>> ((4 : Int32) &&& 31)) % (4 : Int32)).toInt64))), .second, .val (.ref b5), .val (.int (own_f_0 (((9 : Int64) + (p2.toInt64)) + (((p4 >>> ((4 : Int32) &&& 31)) % (4 : Int32)).toInt64)) p2))] [(.int (own_f_0 (((9 : Int64) + (p2.toInt64)) + (((p4 >>> ((4 : Int32) &&& 31)) % (4 : Int32)).toInt64)) p2))]))
      refine own_st (fun _ k => XS.iload X7.here hx rfl (hb hby at_78) rfl k) ?_
      show own_Go p e below _ (T7.setTop (mkF m 80 #[.val (.int p0), .val (.int p1), .val (.int p2), .val (.long q3), .second, .val (.int p4), .val (.int p5), .val (.int (p4 % (4 : Int32))), .val (.int ((p4 >>> ((4 : Int32) &&& 31)) % (4 : Int32))), .val (.int p2), .val (.long (((9 : Int64) + (p2.toInt64)) + (((p4 >>> ((4 : Int32) &&& 31)) % (4 : Int32)).toInt64))), .second, .val (.ref b5), .val (.int (own_f_0 (((9 : Int64) + (p2.toInt64)) + (((p4 >>> ((4 : Int32) &&& 31)) % (4 : Int32)).toInt64)) p2))] [(.int p2), (.int (own_f_0 (((9 : Int64) + (p2.toInt64)) + (((p4 >>> ((4 : Int32) &&& 31)) % (4 : Int32)).toInt64)) p2))]))
      refine own_st (fun _ k => XS.lload X7.here hx rfl (hb hby at_80) rfl k) ?_
      show own_Go p e below _ (T7.setTop (mkF m 82 #[.val (.int p0), .val (.int p1), .val (.int p2), .val (.long q3), .second, .val (.int p4), .val (.int p5), .val (.int (p4 % (4 : Int32))), .val (.int ((p4 >>> ((4 : Int32) &&& 31)) % (4 : Int32))), .val (.int p2), .val (.long (((9 : Int64) + (p2.toInt64)) + (((p4 >>> ((4 : Int32) &&& 31)) % (4 : Int32)).toInt64))), .second, .val (.ref b5), .val (.int (own_f_0 (((9 : Int64) + (p2.toInt64)) + (((p4 >>> ((4 : Int32) &&& 31)) % (4 : Int32)).toInt64)) p2))] [(.long (((9 : Int64) + (p2.toInt64)) + (((p4 >>> ((4 : Int32) &&& 31)) % (4 : Int32)).toInt64))), (.int p2), (.int (own_f_0 (((9 : Int64) + (p2.toInt64)) + (((p4 >>> ((4 : Int32) &&& 31)) % (4 : Int32)).toInt64)) p2))]))
      obtain ⟨_, T8, _, X8, ⟨rfl, rfl, e8⟩, st8⟩ := own_callS X7 hx hZ (y := (⟨"com/example/rootward/rootward/log/FrameHeaderFitsInPinLaw", "expected", "(IJ)Z"⟩ : MethodName)) (argsL := [(.int p2), (.long (((9 : Int64) + (p2.toInt64)) + (((p4 >>> ((4 : Int32) &&& 31)) % (4 : Int32)).toInt64)))]) (rest := [(.int (own_f_0 (((9 : Int64) + (p2.toInt64)) + (((p4 >>> ((4 : Int32) &&& 31)) % (4 : Int32)).toInt64)) p2))]) (W := 1) (g := (mkF m 82 #[.val (.int p0), .val (.int p1), .val (.int p2), .val (.long q3), .second, .val (.int p4), .val (.int p5), .val (.int (p4 % (4 : Int32))), .val (.int ((p4 >>> ((4 : Int32) &&& 31)) % (4 : Int32))), .val (.int p2), .val (.long (((9 : Int64) + (p2.toInt64)) + (((p4 >>> ((4 : Int32) &&& 31)) % (4 : Int32)).toInt64))), .second, .val (.ref b5), .val (.int (own_f_0 (((9 : Int64) + (p2.toInt64)) + (((p4 >>> ((4 : Int32) &&& 31)) % (4 : Int32)).toInt64)) p2))] [(.long (((9 : Int64) + (p2.toInt64)) + (((p4 >>> ((4 : Int32) &&& 31)) % (4 : Int32)).toInt64))), (.int p2), (.int (own_f_0 (((9 : Int64) + (p2.toInt64)) + (((p4 >>> ((4 : Int32) &&& 31)) % (4 : Int32)).toInt64)) p2))])) (rm5 l Z tA hw p2 (((9 : Int64) + (p2.toInt64)) + (((p4 >>> ((4 : Int32) &&& 31)) % (4 : Int32)).toInt64)) h6) hown (hw _ (List.mem_of_getElem? (i := 28) rfl)) (hw _ (List.mem_of_getElem? (i := 29) rfl)) (hw _ (List.mem_of_getElem? (i := 30) rfl)) (hw _ (List.mem_of_getElem? (i := 31) rfl)) (by decide) e7 rfl (by rw [hml]; rfl) pd_3 rfl rfl (by show 2 * 0 + _ ≤ _; exact Nat.le_of_eq rfl) (hb hby at_82) (by decide) (by decide) (by decide) (by decide)
      replace X8 := own_flat X8
      refine own_st st8 ?_
      show own_Go p e below _ (T8.setTop (mkF m 85 #[.val (.int p0), .val (.int p1), .val (.int p2), .val (.long q3), .second, .val (.int p4), .val (.int p5), .val (.int (p4 % (4 : Int32))), .val (.int ((p4 >>> ((4 : Int32) &&& 31)) % (4 : Int32))), .val (.int p2), .val (.long (((9 : Int64) + (p2.toInt64)) + (((p4 >>> ((4 : Int32) &&& 31)) % (4 : Int32)).toInt64))), .second, .val (.ref b5), .val (.int (own_f_0 (((9 : Int64) + (p2.toInt64)) + (((p4 >>> ((4 : Int32) &&& 31)) % (4 : Int32)).toInt64)) p2))] [(.int (own_x_0 p2 (((9 : Int64) + (p2.toInt64)) + (((p4 >>> ((4 : Int32) &&& 31)) % (4 : Int32)).toInt64)))), (.int (own_f_0 (((9 : Int64) + (p2.toInt64)) + (((p4 >>> ((4 : Int32) &&& 31)) % (4 : Int32)).toInt64)) p2))]))
      refine own_st (fun _ k => XS.icmpNo X8.here hx rfl (hb hby at_85) rfl ((own_i2 _ _ _).trans (own_nyes (own_law _ _))) k) ?_
      show own_Go p e below _ (T8.setTop (mkF m 88 #[.val (.int p0), .val (.int p1), .val (.int p2), .val (.long q3), .second, .val (.int p4), .val (.int p5), .val (.int (p4 % (4 : Int32))), .val (.int ((p4 >>> ((4 : Int32) &&& 31)) % (4 : Int32))), .val (.int p2), .val (.long (((9 : Int64) + (p2.toInt64)) + (((p4 >>> ((4 : Int32) &&& 31)) % (4 : Int32)).toInt64))), .second, .val (.ref b5), .val (.int (own_f_0 (((9 : Int64) + (p2.toInt64)) + (((p4 >>> ((4 : Int32) &&& 31)) % (4 : Int32)).toInt64)) p2))] []))
      refine own_st (fun _ k => XS.iconst X8.here hx rfl (hb hby at_88) k) ?_
      show own_Go p e below _ (T8.setTop (mkF m 89 #[.val (.int p0), .val (.int p1), .val (.int p2), .val (.long q3), .second, .val (.int p4), .val (.int p5), .val (.int (p4 % (4 : Int32))), .val (.int ((p4 >>> ((4 : Int32) &&& 31)) % (4 : Int32))), .val (.int p2), .val (.long (((9 : Int64) + (p2.toInt64)) + (((p4 >>> ((4 : Int32) &&& 31)) % (4 : Int32)).toInt64))), .second, .val (.ref b5), .val (.int (own_f_0 (((9 : Int64) + (p2.toInt64)) + (((p4 >>> ((4 : Int32) &&& 31)) % (4 : Int32)).toInt64)) p2))] [(.int (1 : Int32))]))
      refine own_st (fun _ k => XS.goto X8.here hx rfl (pc0 := 89) (pc' := 93) rfl (hb hby at_89) (by decide) (by decide) k) ?_
      show own_Go p e below _ (T8.setTop (mkF m 93 #[.val (.int p0), .val (.int p1), .val (.int p2), .val (.long q3), .second, .val (.int p4), .val (.int p5), .val (.int (p4 % (4 : Int32))), .val (.int ((p4 >>> ((4 : Int32) &&& 31)) % (4 : Int32))), .val (.int p2), .val (.long (((9 : Int64) + (p2.toInt64)) + (((p4 >>> ((4 : Int32) &&& 31)) % (4 : Int32)).toInt64))), .second, .val (.ref b5), .val (.int (own_f_0 (((9 : Int64) + (p2.toInt64)) + (((p4 >>> ((4 : Int32) &&& 31)) % (4 : Int32)).toInt64)) p2))] [(.int (1 : Int32))]))
      exact own_retZ X8 hx hlk hret rfl (hb hby at_93) ⟨rfl, N0⟩ (by decide) (by decide)
  · refine own_st (fun _ k => XS.ifNo X0.here hx rfl (hb hby at_21) rfl ((own_i0 _ _).trans (own_no hc21)) k) ?_
    show own_Go p e below _ (s₁.setTop (mkF m 24 #[.val (.int p0), .val (.int p1), .val (.int p2), .val (.long q3), .second, .val (.int p4), .val (.int p5), .val (.int (p4 % (4 : Int32))), .val (.int ((p4 >>> ((4 : Int32) &&& 31)) % (4 : Int32))), .val (.int p2), .unset, .unset, .unset, .unset] []))
    refine own_st (fun _ k => X0.ldcInt hx hown (mvT hZ (hw _ (List.mem_of_getElem? (i := 0) rfl))) (g := (mkF m 24 #[.val (.int p0), .val (.int p1), .val (.int p2), .val (.long q3), .second, .val (.int p4), .val (.int p5), .val (.int (p4 % (4 : Int32))), .val (.int ((p4 >>> ((4 : Int32) &&& 31)) % (4 : Int32))), .val (.int p2), .unset, .unset, .unset, .unset] [])) rfl (hb hby at_24) _ k) ?_
    show own_Go p e below _ (s₁.setTop (mkF m 26 #[.val (.int p0), .val (.int p1), .val (.int p2), .val (.long q3), .second, .val (.int p4), .val (.int p5), .val (.int (p4 % (4 : Int32))), .val (.int ((p4 >>> ((4 : Int32) &&& 31)) % (4 : Int32))), .val (.int p2), .unset, .unset, .unset, .unset] [(.int (2147483638 : Int32))]))
    refine own_st (fun _ k => XS.iload X0.here hx rfl (hb hby at_26) rfl k) ?_
    show own_Go p e below _ (s₁.setTop (mkF m 28 #[.val (.int p0), .val (.int p1), .val (.int p2), .val (.long q3), .second, .val (.int p4), .val (.int p5), .val (.int (p4 % (4 : Int32))), .val (.int ((p4 >>> ((4 : Int32) &&& 31)) % (4 : Int32))), .val (.int p2), .unset, .unset, .unset, .unset] [(.int (p4 % (4 : Int32))), (.int (2147483638 : Int32))]))
    refine own_st (fun _ k => XS.iadd X0.here hx rfl (hb hby at_28) rfl k) ?_
    show own_Go p e below _ (s₁.setTop (mkF m 29 #[.val (.int p0), .val (.int p1), .val (.int p2), .val (.long q3), .second, .val (.int p4), .val (.int p5), .val (.int (p4 % (4 : Int32))), .val (.int ((p4 >>> ((4 : Int32) &&& 31)) % (4 : Int32))), .val (.int p2), .unset, .unset, .unset, .unset] [(.int ((2147483638 : Int32) + (p4 % (4 : Int32))))]))
    refine own_st (fun _ k => XS.istore X0.here hx rfl (hb hby at_29) rfl (l' := #[.val (.int p0), .val (.int p1), .val (.int p2), .val (.long q3), .second, .val (.int p4), .val (.int p5), .val (.int (p4 % (4 : Int32))), .val (.int ((p4 >>> ((4 : Int32) &&& 31)) % (4 : Int32))), .val (.int ((2147483638 : Int32) + (p4 % (4 : Int32)))), .unset, .unset, .unset, .unset]) rfl k) ?_
    show own_Go p e below _ (s₁.setTop (mkF m 31 #[.val (.int p0), .val (.int p1), .val (.int p2), .val (.long q3), .second, .val (.int p4), .val (.int p5), .val (.int (p4 % (4 : Int32))), .val (.int ((p4 >>> ((4 : Int32) &&& 31)) % (4 : Int32))), .val (.int ((2147483638 : Int32) + (p4 % (4 : Int32)))), .unset, .unset, .unset, .unset] []))
    refine own_st (fun _ k => XS.lloadN X0.here hx rfl (hb hby at_31) rfl k) ?_
    show own_Go p e below _ (s₁.setTop (mkF m 32 #[.val (.int p0), .val (.int p1), .val (.int p2), .val (.long q3), .second, .val (.int p4), .val (.int p5), .val (.int (p4 % (4 : Int32))), .val (.int ((p4 >>> ((4 : Int32) &&& 31)) % (4 : Int32))), .val (.int ((2147483638 : Int32) + (p4 % (4 : Int32)))), .unset, .unset, .unset, .unset] [(.long q3)]))
    refine own_st (fun _ k => XS.lstore X0.here hx rfl (hb hby at_32) rfl (l' := #[.val (.int p0), .val (.int p1), .val (.int p2), .val (.long q3), .second, .val (.int p4), .val (.int p5), .val (.int (p4 % (4 : Int32))), .val (.int ((p4 >>> ((4 : Int32) &&& 31)) % (4 : Int32))), .val (.int ((2147483638 : Int32) + (p4 % (4 : Int32)))), .val (.long q3), .second, .unset, .unset]) rfl k) ?_
    show own_Go p e below _ (s₁.setTop (mkF m 34 #[.val (.int p0), .val (.int p1), .val (.int p2), .val (.long q3), .second, .val (.int p4), .val (.int p5), .val (.int (p4 % (4 : Int32))), .val (.int ((p4 >>> ((4 : Int32) &&& 31)) % (4 : Int32))), .val (.int ((2147483638 : Int32) + (p4 % (4 : Int32)))), .val (.long q3), .second, .unset, .unset] []))
    refine own_st (fun _ k => XS.iload X0.here hx rfl (hb hby at_34) rfl k) ?_
    show own_Go p e below _ (s₁.setTop (mkF m 36 #[.val (.int p0), .val (.int p1), .val (.int p2), .val (.long q3), .second, .val (.int p4), .val (.int p5), .val (.int (p4 % (4 : Int32))), .val (.int ((p4 >>> ((4 : Int32) &&& 31)) % (4 : Int32))), .val (.int ((2147483638 : Int32) + (p4 % (4 : Int32)))), .val (.long q3), .second, .unset, .unset] [(.int p5)]))
    refine own_st (fun _ k => XS.iconst X0.here hx rfl (hb hby at_36) k) ?_
    show own_Go p e below _ (s₁.setTop (mkF m 37 #[.val (.int p0), .val (.int p1), .val (.int p2), .val (.long q3), .second, .val (.int p4), .val (.int p5), .val (.int (p4 % (4 : Int32))), .val (.int ((p4 >>> ((4 : Int32) &&& 31)) % (4 : Int32))), .val (.int ((2147483638 : Int32) + (p4 % (4 : Int32)))), .val (.long q3), .second, .unset, .unset] [(.int (1 : Int32)), (.int p5)]))
    refine own_st (fun _ k => XS.iand X0.here hx rfl (hb hby at_37) rfl k) ?_
    show own_Go p e below _ (s₁.setTop (mkF m 38 #[.val (.int p0), .val (.int p1), .val (.int p2), .val (.long q3), .second, .val (.int p4), .val (.int p5), .val (.int (p4 % (4 : Int32))), .val (.int ((p4 >>> ((4 : Int32) &&& 31)) % (4 : Int32))), .val (.int ((2147483638 : Int32) + (p4 % (4 : Int32)))), .val (.long q3), .second, .unset, .unset] [(.int (p5 &&& (1 : Int32)))]))
    by_cases hc38 : (p5 &&& (1 : Int32)) = (0 : Int32)
    · refine own_st (fun _ k => XS.ifYes X0.here hx rfl (pc0 := 38) (pc' := 54) rfl (hb hby at_38) rfl ((own_i0 _ _).trans (own_yes hc38)) (by decide) (by decide) k) ?_
      show own_Go p e below _ (s₁.setTop (mkF m 54 #[.val (.int p0), .val (.int p1), .val (.int p2), .val (.long q3), .second, .val (.int p4), .val (.int p5), .val (.int (p4 % (4 : Int32))), .val (.int ((p4 >>> ((4 : Int32) &&& 31)) % (4 : Int32))), .val (.int ((2147483638 : Int32) + (p4 % (4 : Int32)))), .val (.long q3), .second, .unset, .unset] []))
      obtain ⟨T9, h9, X9, e9, E9, A9, D9, -, st9⟩ := newO X0 hx hZ hown (hw _ (List.mem_of_getElem? (i := 1) rfl)) (hw _ (List.mem_of_getElem? (i := 2) rfl)) (hw _ (List.mem_of_getElem? (i := 3) rfl)) e0 (g := (mkF m 54 #[.val (.int p0), .val (.int p1), .val (.int p2), .val (.long q3), .second, .val (.int p4), .val (.int p5), .val (.int (p4 % (4 : Int32))), .val (.int ((p4 >>> ((4 : Int32) &&& 31)) % (4 : Int32))), .val (.int ((2147483638 : Int32) + (p4 % (4 : Int32)))), .val (.long q3), .second, .unset, .unset] [])) rfl (hb hby at_54) (by decide) (by decide)
      refine own_st st9 ?_
      obtain ⟨b9, g9⟩ : ∃ z, z = h0.size := ⟨_, rfl⟩
      rw [← g9] at A9 D9 ⊢
      have g_b9 : n0 ≤ b9 := Nat.le_trans Z0 (Nat.le_of_eq g9.symm)
      replace Z0 := Nat.le_trans Z0 E9.1
      have F_checksum_b9 : Fld Z h9 b9 "com/example/rootward/rootward/log/LogFormat$FrameHeader" "checksum" "I" (.int (0 : Int32)) := D9 (Or.inr (hw _ (List.mem_of_getElem? (i := 16) rfl))) (ty := .int) (by decide)
      have F_type_b9 : Fld Z h9 b9 "com/example/rootward/rootward/log/LogFormat$FrameHeader" "type" "I" (.int (0 : Int32)) := D9 (Or.inr (hw _ (List.mem_of_getElem? (i := 18) rfl))) (ty := .int) (by decide)
      have F_length_b9 : Fld Z h9 b9 "com/example/rootward/rootward/log/LogFormat$FrameHeader" "length" "I" (.int (0 : Int32)) := D9 (Or.inr (hw _ (List.mem_of_getElem? (i := 20) rfl))) (ty := .int) (by decide)
      show own_Go p e below _ (T9.setTop (mkF m 57 #[.val (.int p0), .val (.int p1), .val (.int p2), .val (.long q3), .second, .val (.int p4), .val (.int p5), .val (.int (p4 % (4 : Int32))), .val (.int ((p4 >>> ((4 : Int32) &&& 31)) % (4 : Int32))), .val (.int ((2147483638 : Int32) + (p4 % (4 : Int32)))), .val (.long q3), .second, .unset, .unset] [(.ref b9)]))
      refine own_st (fun _ k => XS.dup X9.here hx rfl (hb hby at_57) rfl rfl k) ?_
      show own_Go p e below _ (T9.setTop (mkF m 58 #[.val (.int p0), .val (.int p1), .val (.int p2), .val (.long q3), .second, .val (.int p4), .val (.int p5), .val (.int (p4 % (4 : Int32))), .val (.int ((p4 >>> ((4 : Int32) &&& 31)) % (4 : Int32))), .val (.int ((2147483638 : Int32) + (p4 % (4 : Int32)))), .val (.long q3), .second, .unset, .unset] [(.ref b9), (.ref b9)]))
      refine own_st (fun _ k => XS.iloadN X9.here hx rfl (hb hby at_58) rfl k) ?_
      show own_Go p e below _ (T9.setTop (mkF m 59 #[.val (.int p0), .val (.int p1), .val (.int p2), .val (.long q3), .second, .val (.int p4), .val (.int p5), .val (.int (p4 % (4 : Int32))), .val (.int ((p4 >>> ((4 : Int32) &&& 31)) % (4 : Int32))), .val (.int ((2147483638 : Int32) + (p4 % (4 : Int32)))), .val (.long q3), .second, .unset, .unset] [(.int p0), (.ref b9), (.ref b9)]))
      refine own_st (fun _ k => XS.iloadN X9.here hx rfl (hb hby at_59) rfl k) ?_
      show own_Go p e below _ (T9.setTop (mkF m 60 #[.val (.int p0), .val (.int p1), .val (.int p2), .val (.long q3), .second, .val (.int p4), .val (.int p5), .val (.int (p4 % (4 : Int32))), .val (.int ((p4 >>> ((4 : Int32) &&& 31)) % (4 : Int32))), .val (.int ((2147483638 : Int32) + (p4 % (4 : Int32)))), .val (.long q3), .second, .unset, .unset] [(.int p1), (.int p0), (.ref b9), (.ref b9)]))
      refine own_st (fun _ k => XS.iload X9.here hx rfl (hb hby at_60) rfl k) ?_
      show own_Go p e below _ (T9.setTop (mkF m 62 #[.val (.int p0), .val (.int p1), .val (.int p2), .val (.long q3), .second, .val (.int p4), .val (.int p5), .val (.int (p4 % (4 : Int32))), .val (.int ((p4 >>> ((4 : Int32) &&& 31)) % (4 : Int32))), .val (.int ((2147483638 : Int32) + (p4 % (4 : Int32)))), .val (.long q3), .second, .unset, .unset] [(.int ((2147483638 : Int32) + (p4 % (4 : Int32)))), (.int p1), (.int p0), (.ref b9), (.ref b9)]))
      obtain ⟨_, T10, L10, X10, hQ10, st10⟩ := own_callI X9 hx hZ (y := (⟨"com/example/rootward/rootward/log/LogFormat$FrameHeader", "<init>", "(III)V"⟩ : MethodName)) (a := b9) (argsL := [(.int p0), (.int p1), (.int ((2147483638 : Int32) + (p4 % (4 : Int32))))]) (rest := [(.ref b9)]) (W := 1) (g := (mkF m 62 #[.val (.int p0), .val (.int p1), .val (.int p2), .val (.long q3), .second, .val (.int p4), .val (.int p5), .val (.int (p4 % (4 : Int32))), .val (.int ((p4 >>> ((4 : Int32) &&& 31)) % (4 : Int32))), .val (.int ((2147483638 : Int32) + (p4 % (4 : Int32)))), .val (.long q3), .second, .unset, .unset] [(.int ((2147483638 : Int32) + (p4 % (4 : Int32)))), (.int p1), (.int p0), (.ref b9), (.ref b9)])) (rm1 l Z tA hw b9 p0 p1 ((2147483638 : Int32) + (p4 % (4 : Int32))) h9 n0 g_b9 A9 F_checksum_b9 F_type_b9 F_length_b9) rfl hown (hw _ (List.mem_of_getElem? (i := 4) rfl)) (hw _ (List.mem_of_getElem? (i := 5) rfl)) (hw _ (List.mem_of_getElem? (i := 3) rfl)) (hw _ (List.mem_of_getElem? (i := 6) rfl)) (by decide) e9 rfl (by rw [hml]; rfl) pd_0 rfl rfl (by show 2 * 0 + _ ≤ _; exact Nat.le_of_eq rfl) (hb hby at_62) (by decide) (by decide) (by decide) (by decide)
      obtain ⟨h10, e10⟩ : ∃ z, T10.heap = z := ⟨_, rfl⟩
      rw [e10] at hQ10
      obtain ⟨rfl, Nq10, Kq10, Fq10_0, Fq10_1, Fq10_2⟩ := hQ10
      replace A9 := A9.keep Kq10
      replace Z0 := Nat.le_trans Z0 Kq10.1
      replace N0 := Fr.app N0 Nq10
      refine own_st st10 ?_
      show own_Go p e below _ (T10.setTop (mkF m 65 #[.val (.int p0), .val (.int p1), .val (.int p2), .val (.long q3), .second, .val (.int p4), .val (.int p5), .val (.int (p4 % (4 : Int32))), .val (.int ((p4 >>> ((4 : Int32) &&& 31)) % (4 : Int32))), .val (.int ((2147483638 : Int32) + (p4 % (4 : Int32)))), .val (.long q3), .second, .unset, .unset] [(.ref b9)]))
      refine own_st (fun _ k => XS.astore X10.here hx rfl (hb hby at_65) rfl rfl (l' := #[.val (.int p0), .val (.int p1), .val (.int p2), .val (.long q3), .second, .val (.int p4), .val (.int p5), .val (.int (p4 % (4 : Int32))), .val (.int ((p4 >>> ((4 : Int32) &&& 31)) % (4 : Int32))), .val (.int ((2147483638 : Int32) + (p4 % (4 : Int32)))), .val (.long q3), .second, .val (.ref b9), .unset]) rfl k) ?_
      show own_Go p e below _ (T10.setTop (mkF m 67 #[.val (.int p0), .val (.int p1), .val (.int p2), .val (.long q3), .second, .val (.int p4), .val (.int p5), .val (.int (p4 % (4 : Int32))), .val (.int ((p4 >>> ((4 : Int32) &&& 31)) % (4 : Int32))), .val (.int ((2147483638 : Int32) + (p4 % (4 : Int32)))), .val (.long q3), .second, .val (.ref b9), .unset] []))
      refine own_st (fun _ k => XS.aload X10.here hx rfl (hb hby at_67) rfl rfl k) ?_
      show own_Go p e below _ (T10.setTop (mkF m 69 #[.val (.int p0), .val (.int p1), .val (.int p2), .val (.long q3), .second, .val (.int p4), .val (.int p5), .val (.int (p4 % (4 : Int32))), .val (.int ((p4 >>> ((4 : Int32) &&& 31)) % (4 : Int32))), .val (.int ((2147483638 : Int32) + (p4 % (4 : Int32)))), .val (.long q3), .second, .val (.ref b9), .unset] [(.ref b9)]))
      refine own_st (fun _ k => XS.lload X10.here hx rfl (hb hby at_69) rfl k) ?_
      show own_Go p e below _ (T10.setTop (mkF m 71 #[.val (.int p0), .val (.int p1), .val (.int p2), .val (.long q3), .second, .val (.int p4), .val (.int p5), .val (.int (p4 % (4 : Int32))), .val (.int ((p4 >>> ((4 : Int32) &&& 31)) % (4 : Int32))), .val (.int ((2147483638 : Int32) + (p4 % (4 : Int32)))), .val (.long q3), .second, .val (.ref b9), .unset] [(.long q3), (.ref b9)]))
      obtain ⟨_, T11, _, X11, ⟨rfl, rfl, e11⟩, st11⟩ := own_callV X10 hx hZ (y := (⟨"com/example/rootward/rootward/log/LogFormat$FrameHeader", "fitsIn", "(J)Z"⟩ : MethodName)) (a := b9) (argsL := [(.long q3)]) (rest := []) (W := 0) (g := (mkF m 71 #[.val (.int p0), .val (.int p1), .val (.int p2), .val (.long q3), .second, .val (.int p4), .val (.int p5), .val (.int (p4 % (4 : Int32))), .val (.int ((p4 >>> ((4 : Int32) &&& 31)) % (4 : Int32))), .val (.int ((2147483638 : Int32) + (p4 % (4 : Int32)))), .val (.long q3), .second, .val (.ref b9), .unset] [(.long q3), (.ref b9)])) (rm4 l Z tA hw b9 q3 ((2147483638 : Int32) + (p4 % (4 : Int32))) h10 Fq10_2) A9 hown (hw _ (List.mem_of_getElem? (i := 21) rfl)) (hw _ (List.mem_of_getElem? (i := 22) rfl)) (hw _ (List.mem_of_getElem? (i := 24) rfl)) (hw _ (List.mem_of_getElem? (i := 23) rfl)) (hw _ (List.mem_of_getElem? (i := 3) rfl)) (hw _ (List.mem_of_getElem? (i := 25) rfl)) (by decide) e10 rfl (by rw [hml]; rfl) pd_2 rfl rfl (by show 2 * 0 + _ ≤ _; exact Nat.le_of_eq rfl) (hb hby at_71) (by decide) (by decide) (by decide) (by decide)
      replace X11 := own_flat X11
      refine own_st st11 ?_
      show own_Go p e below _ (T11.setTop (mkF m 74 #[.val (.int p0), .val (.int p1), .val (.int p2), .val (.long q3), .second, .val (.int p4), .val (.int p5), .val (.int (p4 % (4 : Int32))), .val (.int ((p4 >>> ((4 : Int32) &&& 31)) % (4 : Int32))), .val (.int ((2147483638 : Int32) + (p4 % (4 : Int32)))), .val (.long q3), .second, .val (.ref b9), .unset] [(.int (own_f_0 q3 ((2147483638 : Int32) + (p4 % (4 : Int32)))))]))
      refine own_st (fun _ k => XS.istore X11.here hx rfl (hb hby at_74) rfl (l' := #[.val (.int p0), .val (.int p1), .val (.int p2), .val (.long q3), .second, .val (.int p4), .val (.int p5), .val (.int (p4 % (4 : Int32))), .val (.int ((p4 >>> ((4 : Int32) &&& 31)) % (4 : Int32))), .val (.int ((2147483638 : Int32) + (p4 % (4 : Int32)))), .val (.long q3), .second, .val (.ref b9), .val (.int (own_f_0 q3 ((2147483638 : Int32) + (p4 % (4 : Int32)))))]) rfl k) ?_
      show own_Go p e below _ (T11.setTop (mkF m 76 #[.val (.int p0), .val (.int p1), .val (.int p2), .val (.long q3), .second, .val (.int p4), .val (.int p5), .val (.int (p4 % (4 : Int32))), .val (.int ((p4 >>> ((4 : Int32) &&& 31)) % (4 : Int32))), .val (.int ((2147483638 : Int32) + (p4 % (4 : Int32)))), .val (.long q3), .second, .val (.ref b9), .val (.int (own_f_0 q3 ((2147483638 : Int32) + (p4 % (4 : Int32)))))] []))
      refine own_st (fun _ k => XS.iload X11.here hx rfl (hb hby at_76) rfl k) ?_
      show own_Go p e below _ (T11.setTop (mkF m 78 #[.val (.int p0), .val (.int p1), .val (.int p2), .val (.long q3), .second, .val (.int p4), .val (.int p5), .val (.int (p4 % (4 : Int32))), .val (.int ((p4 >>> ((4 : Int32) &&& 31)) % (4 : Int32))), .val (.int ((2147483638 : Int32) + (p4 % (4 : Int32)))), .val (.long q3), .second, .val (.ref b9), .val (.int (own_f_0 q3 ((2147483638 : Int32) + (p4 % (4 : Int32)))))] [(.int (own_f_0 q3 ((2147483638 : Int32) + (p4 % (4 : Int32)))))]))
      refine own_st (fun _ k => XS.iload X11.here hx rfl (hb hby at_78) rfl k) ?_
      show own_Go p e below _ (T11.setTop (mkF m 80 #[.val (.int p0), .val (.int p1), .val (.int p2), .val (.long q3), .second, .val (.int p4), .val (.int p5), .val (.int (p4 % (4 : Int32))), .val (.int ((p4 >>> ((4 : Int32) &&& 31)) % (4 : Int32))), .val (.int ((2147483638 : Int32) + (p4 % (4 : Int32)))), .val (.long q3), .second, .val (.ref b9), .val (.int (own_f_0 q3 ((2147483638 : Int32) + (p4 % (4 : Int32)))))] [(.int ((2147483638 : Int32) + (p4 % (4 : Int32)))), (.int (own_f_0 q3 ((2147483638 : Int32) + (p4 % (4 : Int32)))))]))
      refine own_st (fun _ k => XS.lload X11.here hx rfl (hb hby at_80) rfl k) ?_
      show own_Go p e below _ (T11.setTop (mkF m 82 #[.val (.int p0), .val (.int p1), .val (.int p2), .val (.long q3), .second, .val (.int p4), .val (.int p5), .val (.int (p4 % (4 : Int32))), .val (.int ((p4 >>> ((4 : Int32) &&& 31)) % (4 : Int32))), .val (.int ((2147483638 : Int32) + (p4 % (4 : Int32)))), .val (.long q3), .second, .val (.ref b9), .val (.int (own_f_0 q3 ((2147483638 : Int32) + (p4 % (4 : Int32)))))] [(.long q3), (.int ((2147483638 : Int32) + (p4 % (4 : Int32)))), (.int (own_f_0 q3 ((2147483638 : Int32) + (p4 % (4 : Int32)))))]))
      obtain ⟨_, T12, _, X12, ⟨rfl, rfl, e12⟩, st12⟩ := own_callS X11 hx hZ (y := (⟨"com/example/rootward/rootward/log/FrameHeaderFitsInPinLaw", "expected", "(IJ)Z"⟩ : MethodName)) (argsL := [(.int ((2147483638 : Int32) + (p4 % (4 : Int32)))), (.long q3)]) (rest := [(.int (own_f_0 q3 ((2147483638 : Int32) + (p4 % (4 : Int32)))))]) (W := 1) (g := (mkF m 82 #[.val (.int p0), .val (.int p1), .val (.int p2), .val (.long q3), .second, .val (.int p4), .val (.int p5), .val (.int (p4 % (4 : Int32))), .val (.int ((p4 >>> ((4 : Int32) &&& 31)) % (4 : Int32))), .val (.int ((2147483638 : Int32) + (p4 % (4 : Int32)))), .val (.long q3), .second, .val (.ref b9), .val (.int (own_f_0 q3 ((2147483638 : Int32) + (p4 % (4 : Int32)))))] [(.long q3), (.int ((2147483638 : Int32) + (p4 % (4 : Int32)))), (.int (own_f_0 q3 ((2147483638 : Int32) + (p4 % (4 : Int32)))))])) (rm5 l Z tA hw ((2147483638 : Int32) + (p4 % (4 : Int32))) q3 h10) hown (hw _ (List.mem_of_getElem? (i := 28) rfl)) (hw _ (List.mem_of_getElem? (i := 29) rfl)) (hw _ (List.mem_of_getElem? (i := 30) rfl)) (hw _ (List.mem_of_getElem? (i := 31) rfl)) (by decide) e11 rfl (by rw [hml]; rfl) pd_3 rfl rfl (by show 2 * 0 + _ ≤ _; exact Nat.le_of_eq rfl) (hb hby at_82) (by decide) (by decide) (by decide) (by decide)
      replace X12 := own_flat X12
      refine own_st st12 ?_
      show own_Go p e below _ (T12.setTop (mkF m 85 #[.val (.int p0), .val (.int p1), .val (.int p2), .val (.long q3), .second, .val (.int p4), .val (.int p5), .val (.int (p4 % (4 : Int32))), .val (.int ((p4 >>> ((4 : Int32) &&& 31)) % (4 : Int32))), .val (.int ((2147483638 : Int32) + (p4 % (4 : Int32)))), .val (.long q3), .second, .val (.ref b9), .val (.int (own_f_0 q3 ((2147483638 : Int32) + (p4 % (4 : Int32)))))] [(.int (own_x_0 ((2147483638 : Int32) + (p4 % (4 : Int32))) q3)), (.int (own_f_0 q3 ((2147483638 : Int32) + (p4 % (4 : Int32)))))]))
      refine own_st (fun _ k => XS.icmpNo X12.here hx rfl (hb hby at_85) rfl ((own_i2 _ _ _).trans (own_nyes (own_law _ _))) k) ?_
      show own_Go p e below _ (T12.setTop (mkF m 88 #[.val (.int p0), .val (.int p1), .val (.int p2), .val (.long q3), .second, .val (.int p4), .val (.int p5), .val (.int (p4 % (4 : Int32))), .val (.int ((p4 >>> ((4 : Int32) &&& 31)) % (4 : Int32))), .val (.int ((2147483638 : Int32) + (p4 % (4 : Int32)))), .val (.long q3), .second, .val (.ref b9), .val (.int (own_f_0 q3 ((2147483638 : Int32) + (p4 % (4 : Int32)))))] []))
      refine own_st (fun _ k => XS.iconst X12.here hx rfl (hb hby at_88) k) ?_
      show own_Go p e below _ (T12.setTop (mkF m 89 #[.val (.int p0), .val (.int p1), .val (.int p2), .val (.long q3), .second, .val (.int p4), .val (.int p5), .val (.int (p4 % (4 : Int32))), .val (.int ((p4 >>> ((4 : Int32) &&& 31)) % (4 : Int32))), .val (.int ((2147483638 : Int32) + (p4 % (4 : Int32)))), .val (.long q3), .second, .val (.ref b9), .val (.int (own_f_0 q3 ((2147483638 : Int32) + (p4 % (4 : Int32)))))] [(.int (1 : Int32))]))
      refine own_st (fun _ k => XS.goto X12.here hx rfl (pc0 := 89) (pc' := 93) rfl (hb hby at_89) (by decide) (by decide) k) ?_
      show own_Go p e below _ (T12.setTop (mkF m 93 #[.val (.int p0), .val (.int p1), .val (.int p2), .val (.long q3), .second, .val (.int p4), .val (.int p5), .val (.int (p4 % (4 : Int32))), .val (.int ((p4 >>> ((4 : Int32) &&& 31)) % (4 : Int32))), .val (.int ((2147483638 : Int32) + (p4 % (4 : Int32)))), .val (.long q3), .second, .val (.ref b9), .val (.int (own_f_0 q3 ((2147483638 : Int32) + (p4 % (4 : Int32)))))] [(.int (1 : Int32))]))
      exact own_retZ X12 hx hlk hret rfl (hb hby at_93) ⟨rfl, N0⟩ (by decide) (by decide)
    · refine own_st (fun _ k => XS.ifNo X0.here hx rfl (hb hby at_38) rfl ((own_i0 _ _).trans (own_no hc38)) k) ?_
      show own_Go p e below _ (s₁.setTop (mkF m 41 #[.val (.int p0), .val (.int p1), .val (.int p2), .val (.long q3), .second, .val (.int p4), .val (.int p5), .val (.int (p4 % (4 : Int32))), .val (.int ((p4 >>> ((4 : Int32) &&& 31)) % (4 : Int32))), .val (.int ((2147483638 : Int32) + (p4 % (4 : Int32)))), .val (.long q3), .second, .unset, .unset] []))
      refine own_st (fun _ k => X0.ldc2Long hx hown (mvT hZ (hw _ (List.mem_of_getElem? (i := 32) rfl))) (g := (mkF m 41 #[.val (.int p0), .val (.int p1), .val (.int p2), .val (.long q3), .second, .val (.int p4), .val (.int p5), .val (.int (p4 % (4 : Int32))), .val (.int ((p4 >>> ((4 : Int32) &&& 31)) % (4 : Int32))), .val (.int ((2147483638 : Int32) + (p4 % (4 : Int32)))), .val (.long q3), .second, .unset, .unset] [])) rfl (hb hby at_41) _ k) ?_
      show own_Go p e below _ (s₁.setTop (mkF m 44 #[.val (.int p0), .val (.int p1), .val (.int p2), .val (.long q3), .second, .val (.int p4), .val (.int p5), .val (.int (p4 % (4 : Int32))), .val (.int ((p4 >>> ((4 : Int32) &&& 31)) % (4 : Int32))), .val (.int ((2147483638 : Int32) + (p4 % (4 : Int32)))), .val (.long q3), .second, .unset, .unset] [(.long (9 : Int64))]))
      refine own_st (fun _ k => XS.iload X0.here hx rfl (hb hby at_44) rfl k) ?_
      show own_Go p e below _ (s₁.setTop (mkF m 46 #[.val (.int p0), .val (.int p1), .val (.int p2), .val (.long q3), .second, .val (.int p4), .val (.int p5), .val (.int (p4 % (4 : Int32))), .val (.int ((p4 >>> ((4 : Int32) &&& 31)) % (4 : Int32))), .val (.int ((2147483638 : Int32) + (p4 % (4 : Int32)))), .val (.long q3), .second, .unset, .unset] [(.int ((2147483638 : Int32) + (p4 % (4 : Int32)))), (.long (9 : Int64))]))
      refine own_st (fun _ k => XS.i2l X0.here hx rfl (hb hby at_46) rfl k) ?_
      show own_Go p e below _ (s₁.setTop (mkF m 47 #[.val (.int p0), .val (.int p1), .val (.int p2), .val (.long q3), .second, .val (.int p4), .val (.int p5), .val (.int (p4 % (4 : Int32))), .val (.int ((p4 >>> ((4 : Int32) &&& 31)) % (4 : Int32))), .val (.int ((2147483638 : Int32) + (p4 % (4 : Int32)))), .val (.long q3), .second, .unset, .unset] [(.long (((2147483638 : Int32) + (p4 % (4 : Int32))).toInt64)), (.long (9 : Int64))]))
      refine own_st (fun _ k => XS.ladd X0.here hx rfl (hb hby at_47) rfl k) ?_
      show own_Go p e below _ (s₁.setTop (mkF m 48 #[.val (.int p0), .val (.int p1), .val (.int p2), .val (.long q3), .second, .val (.int p4), .val (.int p5), .val (.int (p4 % (4 : Int32))), .val (.int ((p4 >>> ((4 : Int32) &&& 31)) % (4 : Int32))), .val (.int ((2147483638 : Int32) + (p4 % (4 : Int32)))), .val (.long q3), .second, .unset, .unset] [(.long ((9 : Int64) + (((2147483638 : Int32) + (p4 % (4 : Int32))).toInt64)))]))
      refine own_st (fun _ k => XS.iload X0.here hx rfl (hb hby at_48) rfl k) ?_
      show own_Go p e below _ (s₁.setTop (mkF m 50 #[.val (.int p0), .val (.int p1), .val (.int p2), .val (.long q3), .second, .val (.int p4), .val (.int p5), .val (.int (p4 % (4 : Int32))), .val (.int ((p4 >>> ((4 : Int32) &&& 31)) % (4 : Int32))), .val (.int ((2147483638 : Int32) + (p4 % (4 : Int32)))), .val (.long q3), .second, .unset, .unset] [(.int ((p4 >>> ((4 : Int32) &&& 31)) % (4 : Int32))), (.long ((9 : Int64) + (((2147483638 : Int32) + (p4 % (4 : Int32))).toInt64)))]))
      refine own_st (fun _ k => XS.i2l X0.here hx rfl (hb hby at_50) rfl k) ?_
      show own_Go p e below _ (s₁.setTop (mkF m 51 #[.val (.int p0), .val (.int p1), .val (.int p2), .val (.long q3), .second, .val (.int p4), .val (.int p5), .val (.int (p4 % (4 : Int32))), .val (.int ((p4 >>> ((4 : Int32) &&& 31)) % (4 : Int32))), .val (.int ((2147483638 : Int32) + (p4 % (4 : Int32)))), .val (.long q3), .second, .unset, .unset] [(.long (((p4 >>> ((4 : Int32) &&& 31)) % (4 : Int32)).toInt64)), (.long ((9 : Int64) + (((2147483638 : Int32) + (p4 % (4 : Int32))).toInt64)))]))
      refine own_st (fun _ k => XS.ladd X0.here hx rfl (hb hby at_51) rfl k) ?_
      show own_Go p e below _ (s₁.setTop (mkF m 52 #[.val (.int p0), .val (.int p1), .val (.int p2), .val (.long q3), .second, .val (.int p4), .val (.int p5), .val (.int (p4 % (4 : Int32))), .val (.int ((p4 >>> ((4 : Int32) &&& 31)) % (4 : Int32))), .val (.int ((2147483638 : Int32) + (p4 % (4 : Int32)))), .val (.long q3), .second, .unset, .unset] [(.long (((9 : Int64) + (((2147483638 : Int32) + (p4 % (4 : Int32))).toInt64)) + (((p4 >>> ((4 : Int32) &&& 31)) % (4 : Int32)).toInt64)))]))
      refine own_st (fun _ k => XS.lstore X0.here hx rfl (hb hby at_52) rfl (l' := #[.val (.int p0), .val (.int p1), .val (.int p2), .val (.long q3), .second, .val (.int p4), .val (.int p5), .val (.int (p4 % (4 : Int32))), .val (.int ((p4 >>> ((4 : Int32) &&& 31)) % (4 : Int32))), .val (.int ((2147483638 : Int32) + (p4 % (4 : Int32)))), .val (.long (((9 : Int64) + (((2147483638 : Int32) + (p4 % (4 : Int32))).toInt64)) + (((p4 >>> ((4 : Int32) &&& 31)) % (4 : Int32)).toInt64))), .second, .unset, .unset]) rfl k) ?_
      show own_Go p e below _ (s₁.setTop (mkF m 54 #[.val (.int p0), .val (.int p1), .val (.int p2), .val (.long q3), .second, .val (.int p4), .val (.int p5), .val (.int (p4 % (4 : Int32))), .val (.int ((p4 >>> ((4 : Int32) &&& 31)) % (4 : Int32))), .val (.int ((2147483638 : Int32) + (p4 % (4 : Int32)))), .val (.long (((9 : Int64) + (((2147483638 : Int32) + (p4 % (4 : Int32))).toInt64)) + (((p4 >>> ((4 : Int32) &&& 31)) % (4 : Int32)).toInt64))), .second, .unset, .unset] []))
      obtain ⟨T13, h13, X13, e13, E13, A13, D13, -, st13⟩ := newO X0 hx hZ hown (hw _ (List.mem_of_getElem? (i := 1) rfl)) (hw _ (List.mem_of_getElem? (i := 2) rfl)) (hw _ (List.mem_of_getElem? (i := 3) rfl)) e0 (g := (mkF m 54 #[.val (.int p0), .val (.int p1), .val (.int p2), .val (.long q3), .second, .val (.int p4), .val (.int p5), .val (.int (p4 % (4 : Int32))), .val (.int ((p4 >>> ((4 : Int32) &&& 31)) % (4 : Int32))), .val (.int ((2147483638 : Int32) + (p4 % (4 : Int32)))), .val (.long (((9 : Int64) + (((2147483638 : Int32) + (p4 % (4 : Int32))).toInt64)) + (((p4 >>> ((4 : Int32) &&& 31)) % (4 : Int32)).toInt64))), .second, .unset, .unset] [])) rfl (hb hby at_54) (by decide) (by decide)
      refine own_st st13 ?_
      obtain ⟨b13, g13⟩ : ∃ z, z = h0.size := ⟨_, rfl⟩
      rw [← g13] at A13 D13 ⊢
      have g_b13 : n0 ≤ b13 := Nat.le_trans Z0 (Nat.le_of_eq g13.symm)
      replace Z0 := Nat.le_trans Z0 E13.1
      have F_checksum_b13 : Fld Z h13 b13 "com/example/rootward/rootward/log/LogFormat$FrameHeader" "checksum" "I" (.int (0 : Int32)) := D13 (Or.inr (hw _ (List.mem_of_getElem? (i := 16) rfl))) (ty := .int) (by decide)
      have F_type_b13 : Fld Z h13 b13 "com/example/rootward/rootward/log/LogFormat$FrameHeader" "type" "I" (.int (0 : Int32)) := D13 (Or.inr (hw _ (List.mem_of_getElem? (i := 18) rfl))) (ty := .int) (by decide)
      have F_length_b13 : Fld Z h13 b13 "com/example/rootward/rootward/log/LogFormat$FrameHeader" "length" "I" (.int (0 : Int32)) := D13 (Or.inr (hw _ (List.mem_of_getElem? (i := 20) rfl))) (ty := .int) (by decide)
      show own_Go p e below _ (T13.setTop (mkF m 57 #[.val (.int p0), .val (.int p1), .val (.int p2), .val (.long q3), .second, .val (.int p4), .val (.int p5), .val (.int (p4 % (4 : Int32))), .val (.int ((p4 >>> ((4 : Int32) &&& 31)) % (4 : Int32))), .val (.int ((2147483638 : Int32) + (p4 % (4 : Int32)))), .val (.long (((9 : Int64) + (((2147483638 : Int32) + (p4 % (4 : Int32))).toInt64)) + (((p4 >>> ((4 : Int32) &&& 31)) % (4 : Int32)).toInt64))), .second, .unset, .unset] [(.ref b13)]))
      refine own_st (fun _ k => XS.dup X13.here hx rfl (hb hby at_57) rfl rfl k) ?_
      show own_Go p e below _ (T13.setTop (mkF m 58 #[.val (.int p0), .val (.int p1), .val (.int p2), .val (.long q3), .second, .val (.int p4), .val (.int p5), .val (.int (p4 % (4 : Int32))), .val (.int ((p4 >>> ((4 : Int32) &&& 31)) % (4 : Int32))), .val (.int ((2147483638 : Int32) + (p4 % (4 : Int32)))), .val (.long (((9 : Int64) + (((2147483638 : Int32) + (p4 % (4 : Int32))).toInt64)) + (((p4 >>> ((4 : Int32) &&& 31)) % (4 : Int32)).toInt64))), .second, .unset, .unset] [(.ref b13), (.ref b13)]))
      refine own_st (fun _ k => XS.iloadN X13.here hx rfl (hb hby at_58) rfl k) ?_
      show own_Go p e below _ (T13.setTop (mkF m 59 #[.val (.int p0), .val (.int p1), .val (.int p2), .val (.long q3), .second, .val (.int p4), .val (.int p5), .val (.int (p4 % (4 : Int32))), .val (.int ((p4 >>> ((4 : Int32) &&& 31)) % (4 : Int32))), .val (.int ((2147483638 : Int32) + (p4 % (4 : Int32)))), .val (.long (((9 : Int64) + (((2147483638 : Int32) + (p4 % (4 : Int32))).toInt64)) + (((p4 >>> ((4 : Int32) &&& 31)) % (4 : Int32)).toInt64))), .second, .unset, .unset] [(.int p0), (.ref b13), (.ref b13)]))
      refine own_st (fun _ k => XS.iloadN X13.here hx rfl (hb hby at_59) rfl k) ?_
      show own_Go p e below _ (T13.setTop (mkF m 60 #[.val (.int p0), .val (.int p1), .val (.int p2), .val (.long q3), .second, .val (.int p4), .val (.int p5), .val (.int (p4 % (4 : Int32))), .val (.int ((p4 >>> ((4 : Int32) &&& 31)) % (4 : Int32))), .val (.int ((2147483638 : Int32) + (p4 % (4 : Int32)))), .val (.long (((9 : Int64) + (((2147483638 : Int32) + (p4 % (4 : Int32))).toInt64)) + (((p4 >>> ((4 : Int32) &&& 31)) % (4 : Int32)).toInt64))), .second, .unset, .unset] [(.int p1), (.int p0), (.ref b13), (.ref b13)]))
      refine own_st (fun _ k => XS.iload X13.here hx rfl (hb hby at_60) rfl k) ?_
      show own_Go p e below _ (T13.setTop (mkF m 62 #[.val (.int p0), .val (.int p1), .val (.int p2), .val (.long q3), .second, .val (.int p4), .val (.int p5), .val (.int (p4 % (4 : Int32))), .val (.int ((p4 >>> ((4 : Int32) &&& 31)) % (4 : Int32))), .val (.int ((2147483638 : Int32) + (p4 % (4 : Int32)))), .val (.long (((9 : Int64) + (((2147483638 : Int32) + (p4 % (4 : Int32))).toInt64)) + (((p4 >>> ((4 : Int32) &&& 31)) % (4 : Int32)).toInt64))), .second, .unset, .unset] [(.int ((2147483638 : Int32) + (p4 % (4 : Int32)))), (.int p1), (.int p0), (.ref b13), (.ref b13)]))
      obtain ⟨_, T14, L14, X14, hQ14, st14⟩ := own_callI X13 hx hZ (y := (⟨"com/example/rootward/rootward/log/LogFormat$FrameHeader", "<init>", "(III)V"⟩ : MethodName)) (a := b13) (argsL := [(.int p0), (.int p1), (.int ((2147483638 : Int32) + (p4 % (4 : Int32))))]) (rest := [(.ref b13)]) (W := 1) (g := (mkF m 62 #[.val (.int p0), .val (.int p1), .val (.int p2), .val (.long q3), .second, .val (.int p4), .val (.int p5), .val (.int (p4 % (4 : Int32))), .val (.int ((p4 >>> ((4 : Int32) &&& 31)) % (4 : Int32))), .val (.int ((2147483638 : Int32) + (p4 % (4 : Int32)))), .val (.long (((9 : Int64) + (((2147483638 : Int32) + (p4 % (4 : Int32))).toInt64)) + (((p4 >>> ((4 : Int32) &&& 31)) % (4 : Int32)).toInt64))), .second, .unset, .unset] [(.int ((2147483638 : Int32) + (p4 % (4 : Int32)))), (.int p1), (.int p0), (.ref b13), (.ref b13)])) (rm1 l Z tA hw b13 p0 p1 ((2147483638 : Int32) + (p4 % (4 : Int32))) h13 n0 g_b13 A13 F_checksum_b13 F_type_b13 F_length_b13) rfl hown (hw _ (List.mem_of_getElem? (i := 4) rfl)) (hw _ (List.mem_of_getElem? (i := 5) rfl)) (hw _ (List.mem_of_getElem? (i := 3) rfl)) (hw _ (List.mem_of_getElem? (i := 6) rfl)) (by decide) e13 rfl (by rw [hml]; rfl) pd_0 rfl rfl (by show 2 * 0 + _ ≤ _; exact Nat.le_of_eq rfl) (hb hby at_62) (by decide) (by decide) (by decide) (by decide)
      obtain ⟨h14, e14⟩ : ∃ z, T14.heap = z := ⟨_, rfl⟩
      rw [e14] at hQ14
      obtain ⟨rfl, Nq14, Kq14, Fq14_0, Fq14_1, Fq14_2⟩ := hQ14
      replace A13 := A13.keep Kq14
      replace Z0 := Nat.le_trans Z0 Kq14.1
      replace N0 := Fr.app N0 Nq14
      refine own_st st14 ?_
      show own_Go p e below _ (T14.setTop (mkF m 65 #[.val (.int p0), .val (.int p1), .val (.int p2), .val (.long q3), .second, .val (.int p4), .val (.int p5), .val (.int (p4 % (4 : Int32))), .val (.int ((p4 >>> ((4 : Int32) &&& 31)) % (4 : Int32))), .val (.int ((2147483638 : Int32) + (p4 % (4 : Int32)))), .val (.long (((9 : Int64) + (((2147483638 : Int32) + (p4 % (4 : Int32))).toInt64)) + (((p4 >>> ((4 : Int32) &&& 31)) % (4 : Int32)).toInt64))), .second, .unset, .unset] [(.ref b13)]))
      refine own_st (fun _ k => XS.astore X14.here hx rfl (hb hby at_65) rfl rfl (l' := #[.val (.int p0), .val (.int p1), .val (.int p2), .val (.long q3), .second, .val (.int p4), .val (.int p5), .val (.int (p4 % (4 : Int32))), .val (.int ((p4 >>> ((4 : Int32) &&& 31)) % (4 : Int32))), .val (.int ((2147483638 : Int32) + (p4 % (4 : Int32)))), .val (.long (((9 : Int64) + (((2147483638 : Int32) + (p4 % (4 : Int32))).toInt64)) + (((p4 >>> ((4 : Int32) &&& 31)) % (4 : Int32)).toInt64))), .second, .val (.ref b13), .unset]) rfl k) ?_
      show own_Go p e below _ (T14.setTop (mkF m 67 #[.val (.int p0), .val (.int p1), .val (.int p2), .val (.long q3), .second, .val (.int p4), .val (.int p5), .val (.int (p4 % (4 : Int32))), .val (.int ((p4 >>> ((4 : Int32) &&& 31)) % (4 : Int32))), .val (.int ((2147483638 : Int32) + (p4 % (4 : Int32)))), .val (.long (((9 : Int64) + (((2147483638 : Int32) + (p4 % (4 : Int32))).toInt64)) + (((p4 >>> ((4 : Int32) &&& 31)) % (4 : Int32)).toInt64))), .second, .val (.ref b13), .unset] []))
      refine own_st (fun _ k => XS.aload X14.here hx rfl (hb hby at_67) rfl rfl k) ?_
      show own_Go p e below _ (T14.setTop (mkF m 69 #[.val (.int p0), .val (.int p1), .val (.int p2), .val (.long q3), .second, .val (.int p4), .val (.int p5), .val (.int (p4 % (4 : Int32))), .val (.int ((p4 >>> ((4 : Int32) &&& 31)) % (4 : Int32))), .val (.int ((2147483638 : Int32) + (p4 % (4 : Int32)))), .val (.long (((9 : Int64) + (((2147483638 : Int32) + (p4 % (4 : Int32))).toInt64)) + (((p4 >>> ((4 : Int32) &&& 31)) % (4 : Int32)).toInt64))), .second, .val (.ref b13), .unset] [(.ref b13)]))
      refine own_st (fun _ k => XS.lload X14.here hx rfl (hb hby at_69) rfl k) ?_
      show own_Go p e below _ (T14.setTop (mkF m 71 #[.val (.int p0), .val (.int p1), .val (.int p2), .val (.long q3), .second, .val (.int p4), .val (.int p5), .val (.int (p4 % (4 : Int32))), .val (.int ((p4 >>> ((4 : Int32) &&& 31)) % (4 : Int32))), .val (.int ((2147483638 : Int32) + (p4 % (4 : Int32)))), .val (.long (((9 : Int64) + (((2147483638 : Int32) + (p4 % (4 : Int32))).toInt64)) + (((p4 >>> ((4 : Int32) &&& 31)) % (4 : Int32)).toInt64))), .second, .val (.ref b13), .unset] [(.long (((9 : Int64) + (((2147483638 : Int32) + (p4 % (4 : Int32))).toInt64)) + (((p4 >>> ((4 : Int32) &&& 31)) % (4 : Int32)).toInt64))), (.ref b13)]))
      obtain ⟨_, T15, _, X15, ⟨rfl, rfl, e15⟩, st15⟩ := own_callV X14 hx hZ (y := (⟨"com/example/rootward/rootward/log/LogFormat$FrameHeader", "fitsIn", "(J)Z"⟩ : MethodName)) (a := b13) (argsL := [(.long (((9 : Int64) + (((2147483638 : Int32) + (p4 % (4 : Int32))).toInt64)) + (((p4 >>> ((4 : Int32) &&& 31)) % (4 : Int32)).toInt64)))]) (rest := []) (W := 0) (g := (mkF m 71 #[.val (.int p0), .val (.int p1), .val (.int p2), .val (.long q3), .second, .val (.int p4), .val (.int p5), .val (.int (p4 % (4 : Int32))), .val (.int ((p4 >>> ((4 : Int32) &&& 31)) % (4 : Int32))), .val (.int ((2147483638 : Int32) + (p4 % (4 : Int32)))), .val (.long (((9 : Int64) + (((2147483638 : Int32) + (p4 % (4 : Int32))).toInt64)) + (((p4 >>> ((4 : Int32) &&& 31)) % (4 : Int32)).toInt64))), .second, .val (.ref b13), .unset] [(.long (((9 : Int64) + (((2147483638 : Int32) + (p4 % (4 : Int32))).toInt64)) + (((p4 >>> ((4 : Int32) &&& 31)) % (4 : Int32)).toInt64))), (.ref b13)])) (rm4 l Z tA hw b13 (((9 : Int64) + (((2147483638 : Int32) + (p4 % (4 : Int32))).toInt64)) + (((p4 >>> ((4 : Int32) &&& 31)) % (4 : Int32)).toInt64)) ((2147483638 : Int32) + (p4 % (4 : Int32))) h14 Fq14_2) A13 hown (hw _ (List.mem_of_getElem? (i := 21) rfl)) (hw _ (List.mem_of_getElem? (i := 22) rfl)) (hw _ (List.mem_of_getElem? (i := 24) rfl)) (hw _ (List.mem_of_getElem? (i := 23) rfl)) (hw _ (List.mem_of_getElem? (i := 3) rfl)) (hw _ (List.mem_of_getElem? (i := 25) rfl)) (by decide) e14 rfl (by rw [hml]; rfl) pd_2 rfl rfl (by show 2 * 0 + _ ≤ _; exact Nat.le_of_eq rfl) (hb hby at_71) (by decide) (by decide) (by decide) (by decide)
      replace X15 := own_flat X15
      refine own_st st15 ?_
      show own_Go p e below _ (T15.setTop (mkF m 74 #[.val (.int p0), .val (.int p1), .val (.int p2), .val (.long q3), .second, .val (.int p4), .val (.int p5), .val (.int (p4 % (4 : Int32))), .val (.int ((p4 >>> ((4 : Int32) &&& 31)) % (4 : Int32))), .val (.int ((2147483638 : Int32) + (p4 % (4 : Int32)))), .val (.long (((9 : Int64) + (((2147483638 : Int32) + (p4 % (4 : Int32))).toInt64)) + (((p4 >>> ((4 : Int32) &&& 31)) % (4 : Int32)).toInt64))), .second, .val (.ref b13), .unset] [(.int (own_f_0 (((9 : Int64) + (((2147483638 : Int32) + (p4 % (4 : Int32))).toInt64)) + (((p4 >>> ((4 : Int32) &&& 31)) % (4 : Int32)).toInt64)) ((2147483638 : Int32) + (p4 % (4 : Int32)))))]))
      refine own_st (fun _ k => XS.istore X15.here hx rfl (hb hby at_74) rfl (l' := #[.val (.int p0), .val (.int p1), .val (.int p2), .val (.long q3), .second, .val (.int p4), .val (.int p5), .val (.int (p4 % (4 : Int32))), .val (.int ((p4 >>> ((4 : Int32) &&& 31)) % (4 : Int32))), .val (.int ((2147483638 : Int32) + (p4 % (4 : Int32)))), .val (.long (((9 : Int64) + (((2147483638 : Int32) + (p4 % (4 : Int32))).toInt64)) + (((p4 >>> ((4 : Int32) &&& 31)) % (4 : Int32)).toInt64))), .second, .val (.ref b13), .val (.int (own_f_0 (((9 : Int64) + (((2147483638 : Int32) + (p4 % (4 : Int32))).toInt64)) + (((p4 >>> ((4 : Int32) &&& 31)) % (4 : Int32)).toInt64)) ((2147483638 : Int32) + (p4 % (4 : Int32)))))]) rfl k) ?_
      show own_Go p e below _ (T15.setTop (mkF m 76 #[.val (.int p0), .val (.int p1), .val (.int p2), .val (.long q3), .second, .val (.int p4), .val (.int p5), .val (.int (p4 % (4 : Int32))), .val (.int ((p4 >>> ((4 : Int32) &&& 31)) % (4 : Int32))), .val (.int ((2147483638 : Int32) + (p4 % (4 : Int32)))), .val (.long (((9 : Int64) + (((2147483638 : Int32) + (p4 % (4 : Int32))).toInt64)) + (((p4 >>> ((4 : Int32) &&& 31)) % (4 : Int32)).toInt64))), .second, .val (.ref b13), .val (.int (own_f_0 (((9 : Int64) + (((2147483638 : Int32) + (p4 % (4 : Int32))).toInt64)) + (((p4 >>> ((4 : Int32) &&& 31)) % (4 : Int32)).toInt64)) ((2147483638 : Int32) + (p4 % (4 : Int32)))))] []))
      refine own_st (fun _ k => XS.iload X15.here hx rfl (hb hby at_76) rfl k) ?_
      show own_Go p e below _ (T15.setTop (mkF m 78 #[.val (.int p0), .val (.int p1), .val (.int p2), .val (.long q3), .second, .val (.int p4), .val (.int p5), .val (.int (p4 % (4 : Int32))), .val (.int ((p4 >>> ((4 : Int32) &&& 31)) % (4 : Int32))), .val (.int ((2147483638 : Int32) + (p4 % (4 : Int32)))), .val (.long (((9 : Int64) + (((2147483638 : Int32) + (p4 % (4 : Int32))).toInt64)) + (((p4 >>> ((4 : Int32) &&& 31)) % (4 : Int32)).toInt64))), .second, .val (.ref b13), .val (.int (own_f_0 (((9 : Int64) + (((2147483638 : Int32) + (p4 % (4 : Int32))).toInt64)) + (((p4 >>> ((4 : Int32) &&& 31)) % (4 : Int32)).toInt64)) ((2147483638 : Int32) + (p4 % (4 : Int32)))))] [(.int (own_f_0 (((9 : Int64) + (((2147483638 : Int32) + (p4 % (4 : Int32))).toInt64)) + (((p4 >>> ((4 : Int32) &&& 31)) % (4 : Int32)).toInt64)) ((2147483638 : Int32) + (p4 % (4 : Int32)))))]))
      refine own_st (fun _ k => XS.iload X15.here hx rfl (hb hby at_78) rfl k) ?_
      show own_Go p e below _ (T15.setTop (mkF m 80 #[.val (.int p0), .val (.int p1), .val (.int p2), .val (.long q3), .second, .val (.int p4), .val (.int p5), .val (.int (p4 % (4 : Int32))), .val (.int ((p4 >>> ((4 : Int32) &&& 31)) % (4 : Int32))), .val (.int ((2147483638 : Int32) + (p4 % (4 : Int32)))), .val (.long (((9 : Int64) + (((2147483638 : Int32) + (p4 % (4 : Int32))).toInt64)) + (((p4 >>> ((4 : Int32) &&& 31)) % (4 : Int32)).toInt64))), .second, .val (.ref b13), .val (.int (own_f_0 (((9 : Int64) + (((2147483638 : Int32) + (p4 % (4 : Int32))).toInt64)) + (((p4 >>> ((4 : Int32) &&& 31)) % (4 : Int32)).toInt64)) ((2147483638 : Int32) + (p4 % (4 : Int32)))))] [(.int ((2147483638 : Int32) + (p4 % (4 : Int32)))), (.int (own_f_0 (((9 : Int64) + (((2147483638 : Int32) + (p4 % (4 : Int32))).toInt64)) + (((p4 >>> ((4 : Int32) &&& 31)) % (4 : Int32)).toInt64)) ((2147483638 : Int32) + (p4 % (4 : Int32)))))]))
      refine own_st (fun _ k => XS.lload X15.here hx rfl (hb hby at_80) rfl k) ?_
      show own_Go p e below _ (T15.setTop (mkF m 82 #[.val (.int p0), .val (.int p1), .val (.int p2), .val (.long q3), .second, .val (.int p4), .val (.int p5), .val (.int (p4 % (4 : Int32))), .val (.int ((p4 >>> ((4 : Int32) &&& 31)) % (4 : Int32))), .val (.int ((2147483638 : Int32) + (p4 % (4 : Int32)))), .val (.long (((9 : Int64) + (((2147483638 : Int32) + (p4 % (4 : Int32))).toInt64)) + (((p4 >>> ((4 : Int32) &&& 31)) % (4 : Int32)).toInt64))), .second, .val (.ref b13), .val (.int (own_f_0 (((9 : Int64) + (((2147483638 : Int32) + (p4 % (4 : Int32))).toInt64)) + (((p4 >>> ((4 : Int32) &&& 31)) % (4 : Int32)).toInt64)) ((2147483638 : Int32) + (p4 % (4 : Int32)))))] [(.long (((9 : Int64) + (((2147483638 : Int32) + (p4 % (4 : Int32))).toInt64)) + (((p4 >>> ((4 : Int32) &&& 31)) % (4 : Int32)).toInt64))), (.int ((2147483638 : Int32) + (p4 % (4 : Int32)))), (.int (own_f_0 (((9 : Int64) + (((2147483638 : Int32) + (p4 % (4 : Int32))).toInt64)) + (((p4 >>> ((4 : Int32) &&& 31)) % (4 : Int32)).toInt64)) ((2147483638 : Int32) + (p4 % (4 : Int32)))))]))
      obtain ⟨_, T16, _, X16, ⟨rfl, rfl, e16⟩, st16⟩ := own_callS X15 hx hZ (y := (⟨"com/example/rootward/rootward/log/FrameHeaderFitsInPinLaw", "expected", "(IJ)Z"⟩ : MethodName)) (argsL := [(.int ((2147483638 : Int32) + (p4 % (4 : Int32)))), (.long (((9 : Int64) + (((2147483638 : Int32) + (p4 % (4 : Int32))).toInt64)) + (((p4 >>> ((4 : Int32) &&& 31)) % (4 : Int32)).toInt64)))]) (rest := [(.int (own_f_0 (((9 : Int64) + (((2147483638 : Int32) + (p4 % (4 : Int32))).toInt64)) + (((p4 >>> ((4 : Int32) &&& 31)) % (4 : Int32)).toInt64)) ((2147483638 : Int32) + (p4 % (4 : Int32)))))]) (W := 1) (g := (mkF m 82 #[.val (.int p0), .val (.int p1), .val (.int p2), .val (.long q3), .second, .val (.int p4), .val (.int p5), .val (.int (p4 % (4 : Int32))), .val (.int ((p4 >>> ((4 : Int32) &&& 31)) % (4 : Int32))), .val (.int ((2147483638 : Int32) + (p4 % (4 : Int32)))), .val (.long (((9 : Int64) + (((2147483638 : Int32) + (p4 % (4 : Int32))).toInt64)) + (((p4 >>> ((4 : Int32) &&& 31)) % (4 : Int32)).toInt64))), .second, .val (.ref b13), .val (.int (own_f_0 (((9 : Int64) + (((2147483638 : Int32) + (p4 % (4 : Int32))).toInt64)) + (((p4 >>> ((4 : Int32) &&& 31)) % (4 : Int32)).toInt64)) ((2147483638 : Int32) + (p4 % (4 : Int32)))))] [(.long (((9 : Int64) + (((2147483638 : Int32) + (p4 % (4 : Int32))).toInt64)) + (((p4 >>> ((4 : Int32) &&& 31)) % (4 : Int32)).toInt64))), (.int ((2147483638 : Int32) + (p4 % (4 : Int32)))), (.int (own_f_0 (((9 : Int64) + (((2147483638 : Int32) + (p4 % (4 : Int32))).toInt64)) + (((p4 >>> ((4 : Int32) &&& 31)) % (4 : Int32)).toInt64)) ((2147483638 : Int32) + (p4 % (4 : Int32)))))])) (rm5 l Z tA hw ((2147483638 : Int32) + (p4 % (4 : Int32))) (((9 : Int64) + (((2147483638 : Int32) + (p4 % (4 : Int32))).toInt64)) + (((p4 >>> ((4 : Int32) &&& 31)) % (4 : Int32)).toInt64)) h14) hown (hw _ (List.mem_of_getElem? (i := 28) rfl)) (hw _ (List.mem_of_getElem? (i := 29) rfl)) (hw _ (List.mem_of_getElem? (i := 30) rfl)) (hw _ (List.mem_of_getElem? (i := 31) rfl)) (by decide) e15 rfl (by rw [hml]; rfl) pd_3 rfl rfl (by show 2 * 0 + _ ≤ _; exact Nat.le_of_eq rfl) (hb hby at_82) (by decide) (by decide) (by decide) (by decide)
      replace X16 := own_flat X16
      refine own_st st16 ?_
      show own_Go p e below _ (T16.setTop (mkF m 85 #[.val (.int p0), .val (.int p1), .val (.int p2), .val (.long q3), .second, .val (.int p4), .val (.int p5), .val (.int (p4 % (4 : Int32))), .val (.int ((p4 >>> ((4 : Int32) &&& 31)) % (4 : Int32))), .val (.int ((2147483638 : Int32) + (p4 % (4 : Int32)))), .val (.long (((9 : Int64) + (((2147483638 : Int32) + (p4 % (4 : Int32))).toInt64)) + (((p4 >>> ((4 : Int32) &&& 31)) % (4 : Int32)).toInt64))), .second, .val (.ref b13), .val (.int (own_f_0 (((9 : Int64) + (((2147483638 : Int32) + (p4 % (4 : Int32))).toInt64)) + (((p4 >>> ((4 : Int32) &&& 31)) % (4 : Int32)).toInt64)) ((2147483638 : Int32) + (p4 % (4 : Int32)))))] [(.int (own_x_0 ((2147483638 : Int32) + (p4 % (4 : Int32))) (((9 : Int64) + (((2147483638 : Int32) + (p4 % (4 : Int32))).toInt64)) + (((p4 >>> ((4 : Int32) &&& 31)) % (4 : Int32)).toInt64)))), (.int (own_f_0 (((9 : Int64) + (((2147483638 : Int32) + (p4 % (4 : Int32))).toInt64)) + (((p4 >>> ((4 : Int32) &&& 31)) % (4 : Int32)).toInt64)) ((2147483638 : Int32) + (p4 % (4 : Int32)))))]))
      refine own_st (fun _ k => XS.icmpNo X16.here hx rfl (hb hby at_85) rfl ((own_i2 _ _ _).trans (own_nyes (own_law _ _))) k) ?_
      show own_Go p e below _ (T16.setTop (mkF m 88 #[.val (.int p0), .val (.int p1), .val (.int p2), .val (.long q3), .second, .val (.int p4), .val (.int p5), .val (.int (p4 % (4 : Int32))), .val (.int ((p4 >>> ((4 : Int32) &&& 31)) % (4 : Int32))), .val (.int ((2147483638 : Int32) + (p4 % (4 : Int32)))), .val (.long (((9 : Int64) + (((2147483638 : Int32) + (p4 % (4 : Int32))).toInt64)) + (((p4 >>> ((4 : Int32) &&& 31)) % (4 : Int32)).toInt64))), .second, .val (.ref b13), .val (.int (own_f_0 (((9 : Int64) + (((2147483638 : Int32) + (p4 % (4 : Int32))).toInt64)) + (((p4 >>> ((4 : Int32) &&& 31)) % (4 : Int32)).toInt64)) ((2147483638 : Int32) + (p4 % (4 : Int32)))))] []))
      refine own_st (fun _ k => XS.iconst X16.here hx rfl (hb hby at_88) k) ?_
      show own_Go p e below _ (T16.setTop (mkF m 89 #[.val (.int p0), .val (.int p1), .val (.int p2), .val (.long q3), .second, .val (.int p4), .val (.int p5), .val (.int (p4 % (4 : Int32))), .val (.int ((p4 >>> ((4 : Int32) &&& 31)) % (4 : Int32))), .val (.int ((2147483638 : Int32) + (p4 % (4 : Int32)))), .val (.long (((9 : Int64) + (((2147483638 : Int32) + (p4 % (4 : Int32))).toInt64)) + (((p4 >>> ((4 : Int32) &&& 31)) % (4 : Int32)).toInt64))), .second, .val (.ref b13), .val (.int (own_f_0 (((9 : Int64) + (((2147483638 : Int32) + (p4 % (4 : Int32))).toInt64)) + (((p4 >>> ((4 : Int32) &&& 31)) % (4 : Int32)).toInt64)) ((2147483638 : Int32) + (p4 % (4 : Int32)))))] [(.int (1 : Int32))]))
      refine own_st (fun _ k => XS.goto X16.here hx rfl (pc0 := 89) (pc' := 93) rfl (hb hby at_89) (by decide) (by decide) k) ?_
      show own_Go p e below _ (T16.setTop (mkF m 93 #[.val (.int p0), .val (.int p1), .val (.int p2), .val (.long q3), .second, .val (.int p4), .val (.int p5), .val (.int (p4 % (4 : Int32))), .val (.int ((p4 >>> ((4 : Int32) &&& 31)) % (4 : Int32))), .val (.int ((2147483638 : Int32) + (p4 % (4 : Int32)))), .val (.long (((9 : Int64) + (((2147483638 : Int32) + (p4 % (4 : Int32))).toInt64)) + (((p4 >>> ((4 : Int32) &&& 31)) % (4 : Int32)).toInt64))), .second, .val (.ref b13), .val (.int (own_f_0 (((9 : Int64) + (((2147483638 : Int32) + (p4 % (4 : Int32))).toInt64)) + (((p4 >>> ((4 : Int32) &&& 31)) % (4 : Int32)).toInt64)) ((2147483638 : Int32) + (p4 % (4 : Int32)))))] [(.int (1 : Int32))]))
      exact own_retZ X16 hx hlk hret rfl (hb hby at_93) ⟨rfl, N0⟩ (by decide) (by decide)
set_option maxRecDepth 65536 in
set_option maxHeartbeats 40000000 in
theorem comes_1 {Post : Tables → Env → Array Value → State → Outcome → State → Prop} (hpost : ∀ tb e args s v u, (limb_1_1.after args s (.returned v) u = true ∧ limb_1_2.after args s (.returned v) u = true ∧ True) → FrameEnd s (.returned v) u (Jvm.fieldLocs frame_1_writes args s ++ Jvm.arrayLocs frame_1_arrays args s ++ Jvm.staticLocs frame_1_statics s) 16 128 → Post tb e args s (.returned v) u) :
    ArmFor flags0 classFile x code maxLocals ret World_1 tables_1 room_1 Calls_1 rest_1 Pre_1 Post := by
  intro l hfl _ _ p e ha hc hk s m args below hf hA hF happ hP
  obtain ⟨hcalls, hrest, hpre⟩ := hP
  obtain ⟨-, -, -, hnamed, -, -, -, hat⟩ := (Spec.applies_iff hf).mp happ
  obtain ⟨hg, hn⟩ := and_e (Cond.before_iff.mp (show (Jvm.Cond.and given_1 narrow_1).before args s = true from hpre))
  obtain ⟨g1, g2⟩ := and_e hg
  obtain ⟨g3, g4⟩ := and_e g2
  obtain ⟨g5, g6⟩ := and_e g4
  obtain ⟨g7, g8⟩ := and_e g6
  obtain ⟨g9, g10⟩ := and_e g8
  obtain ⟨g11, g12⟩ := and_e g10
  obtain ⟨w0, w1, w2, w3, w4, w5, rfl⟩ : ∃ w0 w1 w2 w3 w4 w5 : Value, args = #[w0, w1, w2, w3, w4, w5] := by
    have hs : args.size = 6 := by simpa [Cond.value, given_1] using g1
    obtain ⟨L⟩ := args
    match L, hs with
    | [w0, w1, w2, w3, w4, w5], _ => exact ⟨w0, w1, w2, w3, w4, w5, rfl⟩
  have hw := fun d (hd : d ∈ tables_1) => atoms_spec (ws := Jvm.Cond.code x code maxLocals ret :: tables_1) hat d (List.mem_cons_of_mem _ hd)
  obtain ⟨i0, ei0⟩ := is_v g3
  obtain rfl : w0 = (.int i0) := Option.some.inj ei0
  obtain ⟨i1, ei1⟩ := is_v g5
  obtain rfl : w1 = (.int i1) := Option.some.inj ei1
  obtain ⟨i2, ei2⟩ := is_v g7
  obtain rfl : w2 = (.int i2) := Option.some.inj ei2
  obtain ⟨i3, ei3⟩ := isL_v g9
  obtain rfl : w3 = (.long i3) := Option.some.inj ei3
  obtain ⟨i4, ei4⟩ := is_v g11
  obtain rfl : w4 = (.int i4) := Option.some.inj ei4
  obtain ⟨i5, ei5⟩ := is_v g12
  obtain rfl : w5 = (.int i5) := Option.some.inj ei5
  obtain ⟨n, o, h1, h2, h3, _, L, rfl, ⟨rfl, N⟩, hq⟩ := rm0 l s _ hw i0 i1 i2 i3 i4 i5 s.heap s.heap.size (Nat.le_refl _) p e ha hc hk s m _ below hf ((Spec.applies_iff_loose hf).mp happ).1 ⟨rfl, State.Warmed39.refl s, rfl⟩ trivial
  refine ⟨n, _, h1, h2, h3, hpost _ _ _ _ _ _ ⟨Cond.after_iff.mpr rfl, Cond.after_iff.mpr (eq_i res_at (Term.int_eval (1)) rfl), trivial⟩ ⟨hq.1, hq.2.1, (hq.2.2.sift fun y hy => Or.inr (N y hy)).mono (by decide) (by decide)⟩⟩
theorem main_1_1 : Claimed_1_1 := comes_1 fun _ _ _ _ _ _ h hF => ⟨h.1, hF⟩
theorem main_1_2 : Claimed_1_2 := comes_1 fun _ _ _ _ _ _ h hF => ⟨h.2.1, hF⟩
end Jvm.Pilot.@@N@@
namespace Jvm.Pilot.@@N@@
open Jvm Jvm.ClassFile Sem Op Lib Jvm.Free Jvm.Stand Jvm.Pilot.@@N@@.Jvm.D
/-! MADE BY PROGRAM (witnessworld.py) out of the Statement's table words and the real class files: 10 classes; the members and pool entries that the words name. The judged class is class 1, her method 2. -/
namespace start1
open Jvm.ClassFile
def u (s : String) : CpInfo := .utf8 (stringToUtf16 s)
/-- a pool by its gaps: so many unusable entries, then the entry; so many at the end -/
def gap : Nat → List CpInfo → List CpInfo
  | 0, r => r
  | n + 1, r => .unusable :: gap n r
def poolList (es : List (Nat × CpInfo)) (last : Nat) : List CpInfo := es.foldr (fun e r => gap e.1 (e.2 :: r)) (gap last [])
def pool (es : List (Nat × CpInfo)) (last : Nat) : Array CpInfo := ⟨poolList es last⟩
def fileOf (pool : Array CpInfo) (this : Nat) (attrs : Array Attribute := #[]) (ms : Array MethodInfo := #[]) (fl : Nat := 33) (sup : Nat := 0) (ifs : Array Nat := #[]) (fds : Array FieldInfo := #[]) : ClassFile where
  minorVersion := 0
  majorVersion := 65
  constantPool := pool
  accessFlags := fl
  thisClass := this
  superClass := sup
  interfaces := ifs
  fields := fds
  methods := ms
  attributes := attrs
def plain (name : String) (sup : Option ClassId) : Class where
  name := name
  kind := .ordinary
  loader := none
  accessFlags := 33
  super := sup
  interfaces := #[]
  cf := none
  fields := #[]
  methods := #[]
  instanceTypes := #[]
  staticTypes := #[]
  resolved := #[]
  callSites := []
  init := .initialized
  statics := none
  mirror := none

def pool0 : Array CpInfo := pool [(5, u "<init>"), (0, u "()V"), (1, .class_ 10), (1, u "java/lang/Object")] 113

def k0c0 : Code := { maxStack := 0, maxLocals := 1, code := object_method_1_code, exceptionTable := #[], attributes := #[] }
def k0m0 : Method := { name := "<init>", desc := "()V", sig := { parameters := [], returnType := none }, accessFlags := 1, code := some k0c0 }
/-- java/lang/Object -/
def k0 : Class := { plain "java/lang/Object" none with
  accessFlags := 33
  interfaces := #[]
  cf := some (fileOf pool0 8 #[] #[{ accessFlags := 1, nameIndex := 5, descriptorIndex := 6, attributes := #[] }] 33 0 #[] #[])
  fields := #[]
  methods := #[k0m0]
  instanceTypes := #[]
  staticTypes := #[]
  resolved := Array.replicate 124 none
  statics := none }

def pool1 : Array CpInfo := pool [(2, .class_ 4), (1, u "java/lang/Object"), (0, u "<init>"), (0, u "()V"), (0, .integer 2147483638), (0, .long 9), (3, .class_ 13), (0, u "com/example/rootward/rootward/log/LogFormat$FrameHeader"), (0, .methodref 12 15), (0, .nameAndType 5 16), (0, u "(III)V"), (0, .methodref 12 18), (0, .nameAndType 19 20), (0, u "fitsIn"), (0, u "(J)Z"), (0, .methodref 22 23), (0, .class_ 24), (0, .nameAndType 25 26), (0, u "com/example/rootward/rootward/log/FrameHeaderFitsInPinLaw"), (0, u "expected"), (0, u "(IJ)Z"), (3, u "law"), (0, u "(IIIJII)Z")] 6

def k1m0 : Method := { name := "<init>", desc := "()V", sig := { parameters := [], returnType := none }, accessFlags := 2, code := none }
def k1c1 : Code := { maxStack := 4, maxLocals := 3, code := method_2_code, exceptionTable := #[], attributes := #[] }
def k1m1 : Method := { name := "expected", desc := "(IJ)Z", sig := { parameters := [.int, .long], returnType := some .boolean }, accessFlags := 10, code := some k1c1 }
def k1c2 : Code := { maxStack := 5, maxLocals := 14, code := code, exceptionTable := #[], attributes := #[] }
def k1m2 : Method := { name := "law", desc := "(IIIJII)Z", sig := { parameters := [.int, .int, .int, .long, .int, .int], returnType := some .boolean }, accessFlags := 9, code := some k1c2 }
/-- com/example/rootward/rootward/log/FrameHeaderFitsInPinLaw -/
def k1 : Class := { plain "com/example/rootward/rootward/log/FrameHeaderFitsInPinLaw" (some 0) with
  accessFlags := 49
  interfaces := #[]
  cf := some (fileOf pool1 22 #[] #[{ accessFlags := 2, nameIndex := 5, descriptorIndex := 6, attributes := #[] }, { accessFlags := 10, nameIndex := 25, descriptorIndex := 26, attributes := #[] }, { accessFlags := 9, nameIndex := 30, descriptorIndex := 31, attributes := #[] }] 49 2 #[] #[])
  fields := #[]
  methods := #[k1m0, k1m1, k1m2]
  instanceTypes := #[]
  staticTypes := #[]
  resolved := Array.replicate 38 none
  statics := none }

def pool2 : Array CpInfo := pool [(1, .methodref 2 3), (0, .class_ 4), (0, .nameAndType 5 6), (0, u "java/lang/Object"), (0, u "<init>"), (0, u "()V"), (0, .class_ 8), (0, u "java/lang/Record")] 13

def k2c0 : Code := { maxStack := 1, maxLocals := 1, code := jdk_30_method_1_code, exceptionTable := #[], attributes := #[] }
def k2m0 : Method := { name := "<init>", desc := "()V", sig := { parameters := [], returnType := none }, accessFlags := 4, code := some k2c0 }
/-- java/lang/Record -/
def k2 : Class := { plain "java/lang/Record" (some 0) with
  accessFlags := 1057
  interfaces := #[]
  cf := some (fileOf pool2 7 #[] #[{ accessFlags := 4, nameIndex := 5, descriptorIndex := 6, attributes := #[] }] 1057 2 #[] #[])
  fields := #[]
  methods := #[k2m0]
  instanceTypes := #[]
  staticTypes := #[]
  resolved := Array.replicate 22 none
  statics := none }

def pool3 : Array CpInfo := pool [(1, .class_ 2), (0, u "com/example/rootward/rootward/log/LogFormat"), (0, .methodref 4 5), (0, .class_ 6), (0, .nameAndType 7 8), (0, u "java/lang/Record"), (0, u "<init>"), (0, u "()V"), (0, .fieldref 10 11), (0, .class_ 12), (0, .nameAndType 13 14), (0, u "com/example/rootward/rootward/log/LogFormat$FrameHeader"), (0, u "checksum"), (0, u "I"), (0, .fieldref 10 16), (0, .nameAndType 17 14), (0, u "type"), (0, .fieldref 10 19), (0, .nameAndType 20 14), (0, u "length"), (12, u "(III)V"), (23, .long 9), (3, .long 2147483647), (24, u "fitsIn"), (0, u "(J)Z")] 29

def k3c0 : Code := { maxStack := 2, maxLocals := 4, code := prog_23_method_1_code, exceptionTable := #[], attributes := #[] }
def k3m0 : Method := { name := "<init>", desc := "(III)V", sig := { parameters := [.int, .int, .int], returnType := none }, accessFlags := 0, code := some k3c0 }
def k3c1 : Code := { maxStack := 4, maxLocals := 5, code := prog_23_method_6_code, exceptionTable := #[], attributes := #[] }
def k3m1 : Method := { name := "fitsIn", desc := "(J)Z", sig := { parameters := [.long], returnType := some .boolean }, accessFlags := 0, code := some k3c1 }
/-- com/example/rootward/rootward/log/LogFormat$FrameHeader -/
def k3 : Class := { plain "com/example/rootward/rootward/log/LogFormat$FrameHeader" (some 2) with
  accessFlags := 48
  interfaces := #[]
  cf := some (fileOf pool3 10 #[.nestHost 1] #[{ accessFlags := 0, nameIndex := 7, descriptorIndex := 33, attributes := #[] }, { accessFlags := 0, nameIndex := 86, descriptorIndex := 87, attributes := #[] }] 48 4 #[] #[{ accessFlags := 18, nameIndex := 13, descriptorIndex := 14, attributes := #[] }, { accessFlags := 18, nameIndex := 17, descriptorIndex := 14, attributes := #[] }, { accessFlags := 18, nameIndex := 20, descriptorIndex := 14, attributes := #[] }])
  fields := #[{ name := "checksum", type := .int, accessFlags := 18, slot := 0, constantValue := 0 }, { name := "type", type := .int, accessFlags := 18, slot := 1, constantValue := 0 }, { name := "length", type := .int, accessFlags := 18, slot := 2, constantValue := 0 }]
  methods := #[k3m0, k3m1]
  instanceTypes := #[.int, .int, .int]
  staticTypes := #[]
  resolved := Array.replicate 117 none
  statics := none }

def pool4 : Array CpInfo := pool [(1, u "java/lang/Cloneable"), (0, .class_ 1), (0, u "java/lang/Object"), (0, .class_ 3)] 3

/-- java/lang/Cloneable -/
def k4 : Class := { plain "java/lang/Cloneable" (some 0) with
  accessFlags := 1537
  interfaces := #[]
  cf := some (fileOf pool4 2 #[] #[] 1537 4 #[] #[])
  fields := #[]
  methods := #[]
  instanceTypes := #[]
  staticTypes := #[]
  resolved := Array.replicate 8 none
  statics := none }

def pool5 : Array CpInfo := pool [(1, u "java/io/Serializable"), (0, .class_ 1), (0, u "java/lang/Object"), (0, .class_ 3)] 3

/-- java/io/Serializable -/
def k5 : Class := { plain "java/io/Serializable" (some 0) with
  accessFlags := 1537
  interfaces := #[]
  cf := some (fileOf pool5 2 #[] #[] 1537 4 #[] #[])
  fields := #[]
  methods := #[]
  instanceTypes := #[]
  staticTypes := #[]
  resolved := Array.replicate 8 none
  statics := none }

/-- the primitive byte -/
def k6 : Class := { plain "byte" none with kind := .primitive 'B', accessFlags := 0x411 }
/-- [B -/
def k7 : Class := { plain "[B" (some 0) with kind := .array 6 .byte, interfaces := #[4, 5], accessFlags := 1041 }

/-- the primitive int -/
def k8 : Class := { plain "int" none with kind := .primitive 'I', accessFlags := 0x411 }
/-- [I -/
def k9 : Class := { plain "[I" (some 0) with kind := .array 8 .int, interfaces := #[4, 5], accessFlags := 1041 }

def heap : Heap := #[]
def classes : Array Class := #[k0, k1, k2, k3, k4, k5, k6, k7, k8, k9]
def interned : List (Array UInt16 × Addr) := []
def slotsUsed : Nat := 0
def theMethod : MethodId := ⟨1, 2⟩
def args0 : Array Value := #[.int 70, .int 300, .int 7, .long 50, .int 1, .int 1]
def aboutOver (below : List Frame) : State where
  vm := { classes := classes, interned := interned.toArray }
  heap := heap
  slotsUsed := slotsUsed
  threads := #[{ frames := .invoking theMethod args0 :: below }]
def below0 : List Frame := [.native { method := ⟨0, 0⟩, args := #[] }]
def about1 : State := aboutOver below0
def p0 : Program := .bare "" "" ""
def e0 : Env := launch0.env 0 0 0
theorem w_frames : about1.frames = Frame.invoking theMethod args0 :: below0 := rfl
set_option maxRecDepth 65536 in
theorem w_args : argsFit about1.vm theMethod args0 = true := by decide +kernel
set_option maxRecDepth 65536 in
theorem w_heap : heapFits about1 = true := by decide +kernel
set_option maxRecDepth 65536 in
theorem w_runnable : about1.curStatus? = some .runnable := by decide +kernel
set_option maxRecDepth 65536 in
theorem w_alone : about1.alone = true := by decide +kernel
set_option maxRecDepth 65536 in
theorem w_named : about1.methodNamed? x = some theMethod := by decide +kernel
set_option maxRecDepth 65536 in
theorem w_hears : about1.hears theMethod below0 = true := by decide +kernel
set_option maxRecDepth 65536 in
theorem w_ripe : about1.ripe theMethod args0 below0 = true := by decide +kernel
theorem w_running : about1.status = .running := rfl
set_option maxRecDepth 65536 in
theorem w_room : about1.hasRoom e0.platform room_1 = true :=
  launch0.hasRoom_least _ room_1 (by decide +kernel) (by decide +kernel) (by decide +kernel) (by decide +kernel) (by decide +kernel) (by decide +kernel)
theorem allAtoms_all (ts : List Jvm.Cond) (a : Array Jvm.Value) (st : Jvm.State) : (allAtoms ts).before a st = ts.all (fun c => c.before a st) := by
  induction ts with
  | nil => rfl
  | cons c t ih =>
    show (Jvm.Cond.and c (allAtoms t)).before a st = _
    rw [Jvm.Cond.before_and, ih, List.all_cons]
def words1 : List Jvm.Cond := Jvm.Cond.code x code maxLocals ret :: tables_1
/-- a 'code' word, met by the world's own term for the bytes: nothing is compared byte by byte -/
theorem code_word {y : MethodName} {bytes : ByteArray} {mx : Nat} {rt : Option FieldType} {a : Array Value} {s : State} {m : MethodId} {meth : Method} {c : Code} (h1 : s.methodNamed? y = some m) (h2 : s.vm.method? m = some meth) (h3 : meth.code = some c) (h4 : c.code = bytes)
    (h5 : (c.maxLocals == mx && c.exceptionTable.isEmpty && decide (c.maxStack ≤ mostOperands) && decide (meth.sig.returnType = rt) && !meth.locks && decide (parseMethodDescriptor y.desc = some meth.sig)) = true) : (Jvm.Cond.code y bytes mx rt).before a s = true := by
  simp only [Bool.and_eq_true, beq_iff_eq, Bool.not_eq_true', decide_eq_true_eq] at h5
  obtain ⟨⟨⟨⟨⟨g1, g2⟩, g3⟩, g4⟩, g5⟩, g6⟩ := h5
  simp [Cond.before, Cond.holds, Cond.value, h1, h2, h3, h4, g1, g2, g3, g4, g5, g6]
def isCode : Jvm.Cond → Bool
  | .code _ _ _ _ => true
  | _ => false
theorem all_split {L : List Jvm.Cond} {P : Jvm.Cond → Bool} (h1 : L.all (fun c => isCode c || P c) = true) (h2 : ∀ c ∈ L.filter isCode, P c = true) : L.all P = true := by
  refine List.all_eq_true.mpr fun c hc => ?_
  have h := List.all_eq_true.mp h1 c hc
  rcases Bool.eq_false_or_eq_true (isCode c) with hi | hi
  · exact h2 c (List.mem_filter.mpr ⟨hc, hi⟩)
  · simpa [hi] using h
set_option maxRecDepth 65536 in
theorem w_c0 : (Jvm.Cond.code x code maxLocals ret).before args0 about1 = true := code_word (m := ⟨1, 2⟩) (meth := k1m2) (c := k1c2) (by decide +kernel) rfl rfl rfl (by decide +kernel)
set_option maxRecDepth 65536 in
theorem w_c1 : (Jvm.Cond.code ({ cls := "com/example/rootward/rootward/log/LogFormat$FrameHeader", name := "<init>", desc := "(III)V" } : Jvm.MethodName) prog_23_method_1_code (4 : Nat) (Option.none : Option Jvm.ClassFile.FieldType)).before args0 about1 = true := code_word (m := ⟨3, 0⟩) (meth := k3m0) (c := k3c0) (by decide +kernel) rfl rfl rfl (by decide +kernel)
set_option maxRecDepth 65536 in
theorem w_c2 : (Jvm.Cond.code ({ cls := "java/lang/Record", name := "<init>", desc := "()V" } : Jvm.MethodName) jdk_30_method_1_code (1 : Nat) (Option.none : Option Jvm.ClassFile.FieldType)).before args0 about1 = true := code_word (m := ⟨2, 0⟩) (meth := k2m0) (c := k2c0) (by decide +kernel) rfl rfl rfl (by decide +kernel)
set_option maxRecDepth 65536 in
theorem w_c3 : (Jvm.Cond.code ({ cls := "java/lang/Object", name := "<init>", desc := "()V" } : Jvm.MethodName) object_method_1_code (1 : Nat) (Option.none : Option Jvm.ClassFile.FieldType)).before args0 about1 = true := code_word (m := ⟨0, 0⟩) (meth := k0m0) (c := k0c0) (by decide +kernel) rfl rfl rfl (by decide +kernel)
set_option maxRecDepth 65536 in
theorem w_c4 : (Jvm.Cond.code ({ cls := "com/example/rootward/rootward/log/LogFormat$FrameHeader", name := "fitsIn", desc := "(J)Z" } : Jvm.MethodName) prog_23_method_6_code (5 : Nat) (Option.some Jvm.ClassFile.FieldType.boolean)).before args0 about1 = true := code_word (m := ⟨3, 1⟩) (meth := k3m1) (c := k3c1) (by decide +kernel) rfl rfl rfl (by decide +kernel)
set_option maxRecDepth 65536 in
theorem w_c5 : (Jvm.Cond.code ({ cls := "com/example/rootward/rootward/log/FrameHeaderFitsInPinLaw", name := "expected", desc := "(IJ)Z" } : Jvm.MethodName) method_2_code (3 : Nat) (Option.some Jvm.ClassFile.FieldType.boolean)).before args0 about1 = true := code_word (m := ⟨1, 1⟩) (meth := k1m1) (c := k1c1) (by decide +kernel) rfl rfl rfl (by decide +kernel)
def codes1 : List Jvm.Cond := [Jvm.Cond.code x code maxLocals ret, Jvm.Cond.code ({ cls := "com/example/rootward/rootward/log/LogFormat$FrameHeader", name := "<init>", desc := "(III)V" } : Jvm.MethodName) prog_23_method_1_code (4 : Nat) (Option.none : Option Jvm.ClassFile.FieldType), Jvm.Cond.code ({ cls := "java/lang/Record", name := "<init>", desc := "()V" } : Jvm.MethodName) jdk_30_method_1_code (1 : Nat) (Option.none : Option Jvm.ClassFile.FieldType), Jvm.Cond.code ({ cls := "java/lang/Object", name := "<init>", desc := "()V" } : Jvm.MethodName) object_method_1_code (1 : Nat) (Option.none : Option Jvm.ClassFile.FieldType), Jvm.Cond.code ({ cls := "com/example/rootward/rootward/log/LogFormat$FrameHeader", name := "fitsIn", desc := "(J)Z" } : Jvm.MethodName) prog_23_method_6_code (5 : Nat) (Option.some Jvm.ClassFile.FieldType.boolean), Jvm.Cond.code ({ cls := "com/example/rootward/rootward/log/FrameHeaderFitsInPinLaw", name := "expected", desc := "(IJ)Z" } : Jvm.MethodName) method_2_code (3 : Nat) (Option.some Jvm.ClassFile.FieldType.boolean)]
set_option maxRecDepth 65536 in
theorem codes_eq : words1.filter isCode = codes1 := rfl
theorem w_codes : ∀ c ∈ words1.filter isCode, c.before args0 about1 = true := by
  rw [codes_eq]
  intro c hc
  simp only [codes1, List.mem_cons, List.not_mem_nil, or_false] at hc
  rcases hc with rfl | rfl | rfl | rfl | rfl | rfl
  · exact w_c0
  · exact w_c1
  · exact w_c2
  · exact w_c3
  · exact w_c4
  · exact w_c5
set_option maxRecDepth 65536 in
theorem w_t1 : (words1.take 24).all (fun c => isCode c || c.before args0 about1) = true := by decide +kernel
set_option maxRecDepth 65536 in
theorem w_t2 : (words1.drop 24).all (fun c => isCode c || c.before args0 about1) = true := by decide +kernel
theorem w_tables : (allAtoms (Jvm.Cond.code x code maxLocals ret :: tables_1)).before args0 about1 = true := by
  rw [allAtoms_all]
  show words1.all (fun c => c.before args0 about1) = true
  refine all_split ?_ w_codes
  rw [← List.take_append_drop 24 words1, List.all_append, w_t1, w_t2]
  rfl
set_option maxRecDepth 65536 in
theorem w_case : (Jvm.Cond.and given_1 narrow_1).before args0 about1 = true := by decide +kernel
theorem w_applies : (headSpec (Jvm.Cond.code x code maxLocals ret :: tables_1) room_1).applies x e0.platform about1 = true :=
  (Spec.applies_iff w_frames).mpr ⟨w_running, w_runnable, w_alone, w_named, w_hears, w_ripe, w_room, w_tables⟩
theorem atStart : AtStart classFile x code maxLocals ret World_1 tables_1 room_1 Calls_1 rest_1 Pre_1 launch0 p0 e0 about1 theMethod args0 below0 :=
  ⟨lists_1, trivial, launch0.admits_env _ _ _, launch0.least_env, fairChoices_fair.cas, fairChoices_fair.clock, w_frames, w_args, w_heap, w_applies, trivial, trivial, w_case⟩
end start1
theorem witness_1 : WitnessClaimed_1 := ⟨start1.p0, start1.e0, start1.about1, start1.theMethod, start1.args0, start1.below0, start1.atStart⟩
end Jvm.Pilot.@@N@@
