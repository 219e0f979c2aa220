import JvmDerived
import JvmDerived.Pilot.@@N@@Statement
import JvmDerived.Pilot.@@N@@Code
set_option linter.unusedVariables false
set_option linter.unusedSimpArgs false
namespace Jvm.Pilot.@@N@@
open Jvm Jvm.ClassFile Sem Op Lib Jvm.Free Jvm.Stand Jvm.LawKit Jvm.RoadKit Bundle Jvm.Pilot.@@N@@.Jvm.D
section OwnKit
variable {p : Program} {l : Launch} {e : Env} {R : Room} {s : State} {m : MethodId} {args : Array Value} {below : List Frame} {meth : Method} {c : Code} {T : State} {locs : List Loc} {cells slots : Nat} {Z : State} {a0 : Array Value} {h : Heap}
/-- from the state U on the run comes to an end of which Q holds -/
def own_Go (p : Program) (e : Env) (below : List Frame) (Q : Outcome → State → Prop) (U : State) : Prop :=
  ∃ u o, Steps p.tables e below U u ∧ u.status = .running ∧ Ended u below o ∧ Q o u
theorem own_st {Q : Outcome → State → Prop} {U V : State} (k : ∀ t, Steps p.tables e below V t → Steps p.tables e below U t) (q : own_Go p e below Q V) : own_Go p e below Q U := by
  obtain ⟨u, o, h1, h2⟩ := q
  exact ⟨u, o, k _ h1, h2⟩
theorem own_tr {Q : Outcome → State → Prop} {U V : State} (k : Steps p.tables e below U V) (q : own_Go p e below Q V) : own_Go p e below Q U := by
  obtain ⟨u, o, h1, h2⟩ := q
  exact ⟨u, o, k.trans h1, h2⟩
/-- what a body leaves, said of its end -/
abbrev own_Post (s : State) (Qc : Option Value → Heap → List Loc → Prop) (k n : Nat) : Outcome → State → Prop := fun o u => ∃ v L, o = .returned v ∧ Qc v u.heap L ∧ FrameEnd s o u L k n
theorem own_body {y : MethodName} {bytes : ByteArray} {maxL : Nat} {ret : Option FieldType} {ws : List Jvm.Cond} {rm : Room} {as' : Array Value} {h0 : Heap} {Qc : Option Value → Heap → List Loc → Prop} {k n : Nat} (hpl : plainFor y = true)
    (body : ∀ (p : Program) (e : Env) (s : State) (m : MethodId) (below : List Frame) (meth : Method) (c : Code) (s₁ : State), Stand p l e rm s m as' below meth c s₁ [] 0 0 → p.tables.exec = Jvm.exec → Z.Warmed39 s.vm → c.code = bytes → c.maxLocals = maxL → s.vm.findClass y.cls = some m.cls →
      meth.sig.returnType = ret → meth.locks = false → meth.name = y.name → s₁.heap = h0 → own_Go p e below (own_Post s Qc k n) (s₁.setTop (entryFrame m as' maxL))) :
    MetFree l y (head1 (Jvm.Cond.code y bytes maxL ret :: ws) rm) (fun a U => a = as' ∧ Z.Warmed39 U.vm ∧ U.heap = h0) (fun _ _ _ _ _ => True) (fun _ U o U' => own_Post U Qc k n o U') := by
  refine MetFree.of_bodySF hpl hisR ?_
  intro p e s m args below meth c s₁ Bd hml0 hP hK
  obtain ⟨rfl, hZ, hh⟩ := hP
  exact body p e s m below meth c s₁ (Stand.of_body Bd) Bd.exec hZ Bd.bytes hml0 (findClass_of_methodNamed Bd.named) Bd.returns Bd.notSynchronized (name_of_methodNamed Bd.named Bd.method).1 (by rw [← hh, Bd.state]; rfl)
theorem own_end {Qc : Option Value → Heap → List Loc → Prop} {k n : Nat} {v : Option Value} (X : Stand p l e R s m args below meth c T locs cells slots) (hlk : meth.locks = false) (hv : meth.sig.returnType = none → v = none) {g : JFrame}
    (hst : ∀ fs, (∀ (f : JFrame) (acts : List Action), f.method = m → f.locked = none → f.entered = [] → (doReturn e (T.setTop f) acts v).1 = T.setFrames fs) → Steps p.tables e below (T.setTop g) (T.setFrames fs))
    (hQ : Qc v T.heap locs) (hk : cells ≤ k) (hn : slots ≤ n) : own_Go p e below (own_Post s Qc k n) (T.setTop g) := by
  obtain ⟨fs, hr, hrun, hended, hW, hsame⟩ := X.leave (v := v) hv hlk
  exact ⟨_, _, hst fs hr, hrun, hended, _, _, rfl, hQ, ⟨_, rfl⟩, hW, hsame.mono hk hn⟩
theorem own_retI {Qc : Option Value → Heap → List Loc → Prop} {k n : Nat} (X : Stand p l e R s m args below meth c T locs cells slots) (hx : p.tables.exec = Jvm.exec) (hlk : meth.locks = false) (hret : meth.sig.returnType = some .int) {pc : Nat} {Ls : Array Slot} {z : Int32} {rest : List Value}
    (hd : decode c.code pc = .ok (.ireturn, 1)) (hQ : Qc (some (.int z)) T.heap locs) (hk : cells ≤ k) (hn : slots ≤ n) : own_Go p e below (own_Post s Qc k n) (T.setTop (mkF m pc Ls (.int z :: rest))) :=
  own_end X hlk (fun q => by rw [hret] at q; cases q) (fun fs hr => retOut X hx hret (w := .int z) (t := .int) rfl (Or.inl ⟨rfl, Or.inl rfl, z, rfl⟩) hd hr) hQ hk hn
theorem own_retZ {Qc : Option Value → Heap → List Loc → Prop} {k n : Nat} (X : Stand p l e R s m args below meth c T locs cells slots) (hx : p.tables.exec = Jvm.exec) (hlk : meth.locks = false) (hret : meth.sig.returnType = some .boolean) {pc : Nat} {Ls : Array Slot} {z : Int32} {rest : List Value}
    (hz : narrow .boolean (.int z) = .int z) (hd : decode c.code pc = .ok (.ireturn, 1)) (hQ : Qc (some (.int z)) T.heap locs) (hk : cells ≤ k) (hn : slots ≤ n) : own_Go p e below (own_Post s Qc k n) (T.setTop (mkF m pc Ls (.int z :: rest))) :=
  own_end X hlk (fun q => by rw [hret] at q; cases q) (fun fs hr => retOut X hx hret (w := .int z) (t := .boolean) hz (Or.inl ⟨rfl, Or.inr (Or.inl rfl), z, rfl⟩) hd hr) hQ hk hn
theorem own_retJ {Qc : Option Value → Heap → List Loc → Prop} {k n : Nat} (X : Stand p l e R s m args below meth c T locs cells slots) (hx : p.tables.exec = Jvm.exec) (hlk : meth.locks = false) (hret : meth.sig.returnType = some .long) {pc : Nat} {Ls : Array Slot} {z : Int64} {rest : List Value}
    (hd : decode c.code pc = .ok (.lreturn, 1)) (hQ : Qc (some (.long z)) T.heap locs) (hk : cells ≤ k) (hn : slots ≤ n) : own_Go p e below (own_Post s Qc k n) (T.setTop (mkF m pc Ls (.long z :: rest))) :=
  own_end X hlk (fun q => by rw [hret] at q; cases q) (fun fs hr => retOut X hx hret (w := .long z) (t := .long) rfl (Or.inr (Or.inl ⟨rfl, rfl, z, rfl⟩)) hd hr) hQ hk hn
theorem own_retA {Qc : Option Value → Heap → List Loc → Prop} {k n : Nat} (X : Stand p l e R s m args below meth c T locs cells slots) (hx : p.tables.exec = Jvm.exec) (hlk : meth.locks = false) {t : FieldType} (hret : meth.sig.returnType = some t) (ht : t.isReference = true) {pc : Nat} {Ls : Array Slot} {w : Value} (hw : w.isRef = true)
    (hd : decode c.code pc = .ok (.areturn, 1)) (hQ : Qc (some w) T.heap locs) (hk : cells ≤ k) (hn : slots ≤ n) : own_Go p e below (own_Post s Qc k n) (T.setTop (mkF m pc Ls [w])) :=
  own_end X hlk (fun q => by rw [hret] at q; cases q) (fun fs hr => X.areturnOut hx hw hret ht hd hr) hQ hk hn
theorem own_retV {Qc : Option Value → Heap → List Loc → Prop} {k n : Nat} (X : Stand p l e R s m args below meth c T locs cells slots) (hx : p.tables.exec = Jvm.exec) (hlk : meth.locks = false) (hret : meth.sig.returnType = none) {pc : Nat} {Ls : Array Slot}
    (hd : decode c.code pc = .ok (.return_, 1)) (hQ : Qc none T.heap locs) (hk : cells ≤ k) (hn : slots ≤ n) : own_Go p e below (own_Post s Qc k n) (T.setTop (mkF m pc Ls [])) :=
  own_end X hlk (fun _ => rfl) (fun fs hr => X.returnOut hx hret hd hr) hQ hk hn
/-- a callee's contract, as own_body proves it and the three calls below spend it -/
abbrev own_Met (l : Launch) (Z : State) (y : MethodName) (bytes : ByteArray) (maxL : Nat) (ret : Option FieldType) (rm : Room) (as' : Array Value) (h0 : Heap) (Qc : Option Value → Heap → List Loc → Prop) : Prop :=
  MetFree l y (head1 [Jvm.Cond.code y bytes maxL ret] rm) (fun a U => a = as' ∧ Z.Warmed39 U.vm ∧ U.heap = h0) (fun _ _ _ _ _ => True) (fun _ U o U' => own_Post U Qc rm.cells rm.slots o U')
theorem own_callS (X : Stand p l e R s m args below meth c T locs cells slots) (hx : p.tables.exec = Jvm.exec) (hZ : Z.Warmed39 s.vm) {own : String} {index : Nat} {y : MethodName} {bytes : ByteArray} {maxL : Nat} {ret : Option FieldType} {rm : Room} {Qc : Option Value → Heap → List Loc → Prop} {argsL rest : List Value} {ps : List FieldType} {W : Nat} {g : JFrame}
    (hM : own_Met l Z y bytes maxL ret rm argsL.toArray h Qc) (hown : s.vm.findClass own = some m.cls) (w1 : (Jvm.Cond.methodLink own index y).before a0 Z = true) (w2 : (Jvm.Cond.static y).before a0 Z = true) (w3 : (Jvm.Cond.initialized y.cls).before a0 Z = true) (w4 : (Jvm.Cond.code y bytes maxL ret).before a0 Z = true)
    (hy : y.cls ≠ "java/lang/invoke/MethodHandle" ∧ y.cls ≠ "java/lang/invoke/VarHandle") (eT : T.heap = h) (hg : g.method = m) (hsize : g.locals.size = c.maxLocals) (hdesc : parseMethodDescriptor y.desc = some ⟨ps, ret⟩) (hlen : argsL.length = ps.length) (hstack : g.stack = argsL.reverse ++ rest)
    (hW : 2 * g.monitorRoom + (rest.map fun v => v.category).sum ≤ W) (hdg : decode c.code g.pc = .ok (.invokestatic index, 3)) (hf : rm.frames + 1 ≤ R.frames) (hl : W + (maxL + 11) + rm.locals ≤ R.locals) (hc : cells + rm.cells ≤ R.cells) (hs : slots + rm.slots ≤ R.slots) :
    ∃ v T' L, Stand p l e R s m args below meth c T' (locs ++ L) (cells + rm.cells) (slots + rm.slots) ∧ Qc v T'.heap L ∧ ∀ target, Steps p.tables e below (T'.setTop { g with pc := g.pc + 3, stack := v.toList ++ rest }) target → Steps p.tables e below (T.setTop g) target := by
  obtain ⟨v, _, ⟨T1, L1, k1, n1⟩, -, X1, ⟨L, hQ, q1, q2, q3⟩, st⟩ := Jvm.LawKit.callS X hx (y := y) hown (mvT hZ w1) (mvT hZ w2) (mvT hZ w3) (mvT hZ w4) hy (backOf (W := W) hM hZ w4 w3 hf hl) (g := g) hg hsize (lenOf hdesc hlen) hstack hW hdg (fun _ _ => ⟨rfl, eT, hc, hs⟩)
  dsimp only [Pt.U, Pt.locs, Pt.cells, Pt.slots] at X1 q1 q2 q3 st hQ
  subst q1 q2 q3
  exact ⟨v, T1, L, X1, hQ, st⟩
theorem own_callI (X : Stand p l e R s m args below meth c T locs cells slots) (hx : p.tables.exec = Jvm.exec) (hZ : Z.Warmed39 s.vm) {own : String} {index : Nat} {y : MethodName} {bytes : ByteArray} {maxL : Nat} {rm : Room} {Qc : Option Value → Heap → List Loc → Prop} {a : Addr} {argsL rest : List Value} {ps : List FieldType} {W : Nat} {g : JFrame}
    (hM : own_Met l Z y bytes maxL none rm (.ref a :: argsL).toArray h Qc) (hn : y.name = "<init>") (hown : s.vm.findClass own = some m.cls) (w1 : (Jvm.Cond.methodLink own index y).before a0 Z = true) (w2 : (Jvm.Cond.instanceMethod y).before a0 Z = true) (w3 : (Jvm.Cond.initialized y.cls).before a0 Z = true) (w4 : (Jvm.Cond.code y bytes maxL none).before a0 Z = true)
    (hy : y.cls ≠ "java/lang/invoke/MethodHandle" ∧ y.cls ≠ "java/lang/invoke/VarHandle") (eT : T.heap = h) (hg : g.method = m) (hsize : g.locals.size = c.maxLocals) (hdesc : parseMethodDescriptor y.desc = some ⟨ps, none⟩) (hlen : argsL.length = ps.length) (hstack : g.stack = argsL.reverse ++ .ref a :: rest)
    (hW : 2 * g.monitorRoom + (rest.map fun v => v.category).sum ≤ W) (hdg : decode c.code g.pc = .ok (.invokespecial index, 3)) (hf : rm.frames + 1 ≤ R.frames) (hl : W + (maxL + 11) + rm.locals ≤ R.locals) (hc : cells + rm.cells ≤ R.cells) (hs : slots + rm.slots ≤ R.slots) :
    ∃ v T' L, Stand p l e R s m args below meth c T' (locs ++ L) (cells + rm.cells) (slots + rm.slots) ∧ Qc v T'.heap L ∧ ∀ target, Steps p.tables e below (T'.setTop { g with pc := g.pc + 3, stack := v.toList ++ rest }) target → Steps p.tables e below (T.setTop g) target := by
  obtain ⟨v, _, ⟨T1, L1, k1, n1⟩, -, X1, ⟨L, hQ, q1, q2, q3⟩, st⟩ := X.specialBack hx (y := y) hn hown (mvT hZ w1) (mvT hZ w2) (mvT hZ w4) hy (backOf (W := W) hM hZ w4 w3 hf hl) (g := g) hg hsize (Steps.refl _) (a := a) (lenOf hdesc hlen) hstack hW hdg (fun _ _ => ⟨rfl, eT, hc, hs⟩)
  dsimp only [Pt.U, Pt.locs, Pt.cells, Pt.slots] at X1 q1 q2 q3 st hQ
  subst q1 q2 q3
  exact ⟨v, T1, L, X1, hQ, fun _ q => st.trans q⟩
theorem own_callV (X : Stand p l e R s m args below meth c T locs cells slots) (hx : p.tables.exec = Jvm.exec) (hZ : Z.Warmed39 s.vm) {own : String} {index : Nat} {y : MethodName} {bytes : ByteArray} {maxL : Nat} {ret : Option FieldType} {rm : Room} {Qc : Option Value → Heap → List Loc → Prop} {a : Addr} {argsL rest : List Value} {ps : List FieldType} {W : Nat} {g : JFrame}
    (hM : own_Met l Z y bytes maxL ret rm (.ref a :: argsL).toArray h Qc) (E : Exa Z h a y.cls) (hown : s.vm.findClass own = some m.cls) (w1 : (Jvm.Cond.methodLink own index y).before a0 Z = true) (w2 : (Jvm.Cond.declares y).before a0 Z = true) (w3 : (Jvm.Cond.selects y.cls y y).before a0 Z = true) (w4 : (Jvm.Cond.instanceMethod y).before a0 Z = true) (w5 : (Jvm.Cond.initialized y.cls).before a0 Z = true) (w6 : (Jvm.Cond.code y bytes maxL ret).before a0 Z = true)
    (hy : y.cls ≠ "java/lang/invoke/MethodHandle" ∧ y.cls ≠ "java/lang/invoke/VarHandle") (eT : T.heap = h) (hg : g.method = m) (hsize : g.locals.size = c.maxLocals) (hdesc : parseMethodDescriptor y.desc = some ⟨ps, ret⟩) (hlen : argsL.length = ps.length) (hstack : g.stack = argsL.reverse ++ .ref a :: rest)
    (hW : 2 * g.monitorRoom + (rest.map fun v => v.category).sum ≤ W) (hdg : decode c.code g.pc = .ok (.invokevirtual index, 3)) (hf : rm.frames + 1 ≤ R.frames) (hl : W + (maxL + 11) + rm.locals ≤ R.locals) (hc : cells + rm.cells ≤ R.cells) (hs : slots + rm.slots ≤ R.slots) :
    ∃ v T' L, Stand p l e R s m args below meth c T' (locs ++ L) (cells + rm.cells) (slots + rm.slots) ∧ Qc v T'.heap L ∧ ∀ target, Steps p.tables e below (T'.setTop { g with pc := g.pc + 3, stack := v.toList ++ rest }) target → Steps p.tables e below (T.setTop g) target := by
  obtain ⟨cq, kq, qa, qb, qc⟩ := isOf hZ eT E
  obtain ⟨v, _, ⟨T1, L1, k1, n1⟩, -, X1, ⟨L, hQ, q1, q2, q3⟩, st⟩ := X.virtualBack hx (y := y) (z := y) hown (mvT hZ w1) (mvT hZ w2) (notFace_of_selects (args := #[]) (mvT hZ w3)) (mvT hZ w3) (mvT hZ w4) hy (backOf (W := W) hM hZ w6 w5 hf hl) qa qc (g := g) hg hsize (Steps.refl _) (lenOf hdesc hlen) hstack hW hdg (fun _ _ => ⟨rfl, eT, hc, hs⟩)
  dsimp only [Pt.U, Pt.locs, Pt.cells, Pt.slots] at X1 q1 q2 q3 st hQ
  subst q1 q2 q3
  exact ⟨v, T1, L, X1, hQ, fun _ q => st.trans q⟩
/-- what a body that writes nothing leaves -/
abbrev own_P (v : Option Value) (h : Heap) : Option Value → Heap → List Loc → Prop := fun w h' L => w = v ∧ L = [] ∧ h' = h
theorem own_flat (X : Stand p l e R s m args below meth c T (locs ++ []) (cells + 0) (slots + 0)) : Stand p l e R s m args below meth c T locs cells slots := by
  rw [List.append_nil] at X
  exact X
def own_c32 : ClassFile.Cond → Int32 → Int32 → Bool
  | .lt, x, y => decide (x < y)
  | .ge, x, y => !decide (x < y)
  | .gt, x, y => decide (y < x)
  | .le, x, y => !decide (y < x)
  | .eq, x, y => decide (x = y)
  | .ne, x, y => !decide (x = y)
def own_c64 : ClassFile.Cond → Int64 → Int64 → Bool
  | .lt, x, y => decide (x < y)
  | .ge, x, y => !decide (x < y)
  | .gt, x, y => decide (y < x)
  | .le, x, y => !decide (y < x)
  | .eq, x, y => decide (x = y)
  | .ne, x, y => !decide (x = y)
theorem own_yes {P : Prop} [Decidable P] (q : P) : decide P = true := decide_eq_true q
theorem own_no {P : Prop} [Decidable P] (q : ¬ P) : decide P = false := decide_eq_false q
theorem own_nyes {P : Prop} [Decidable P] (q : P) : (!decide P) = false := by rw [decide_eq_true q]; rfl
theorem own_nno {P : Prop} [Decidable P] (q : ¬ P) : (!decide P) = true := by rw [decide_eq_false q]; rfl
theorem own_i2 (cd : ClassFile.Cond) (x y : Int32) : if_icmp.holds cd x y = own_c32 cd x y := by
  cases cd
  case lt => by_cases q : x < y; · exact (tlt q).1.trans (own_yes q).symm
             · exact (flt q).1.trans (own_no q).symm
  case ge => by_cases q : x < y; · exact (tlt q).2.1.trans (own_nyes q).symm
             · exact (flt q).2.1.trans (own_nno q).symm
  case gt => by_cases q : y < x; · exact (tlt q).2.2.1.trans (own_yes q).symm
             · exact (flt q).2.2.1.trans (own_no q).symm
  case le => by_cases q : y < x; · exact (tlt q).2.2.2.trans (own_nyes q).symm
             · exact (flt q).2.2.2.trans (own_nno q).symm
  case eq => by_cases q : x = y; · exact (teq q).1.trans (own_yes q).symm
             · exact (feq q).1.trans (own_no q).symm
  case ne => by_cases q : x = y; · exact (teq q).2.trans (own_nyes q).symm
             · exact (feq q).2.trans (own_nno q).symm
theorem own_i0 (cd : ClassFile.Cond) (x : Int32) : ifCond.holds cd x = own_c32 cd x 0 := (if0 cd x).trans (own_i2 cd x 0)
theorem own_l0 (cd : ClassFile.Cond) (x y : Int64) : ifCond.holds cd (lcmpW x y) = own_c64 cd x y := by
  rw [own_i0]
  have q1 := lw_lt x y
  have q2 := lw_gt x y
  have q3 := lw_eq x y
  cases cd <;> simp only [own_c32, own_c64, q1, q2, q3]
theorem own_ldI {a : Addr} {k : ClassId} {z j : Int32} {vs : List Value} {dv : Value} (F : Arv Z h a k .int z vs dv) (q : ¬ j < 0 ∧ j < z) : ∃ (cl : Cell) (v : Int32), Arr Z h a cl .int ∧ ¬ (j < 0 ∨ cl.slots.size ≤ j.toNatClampNeg) ∧ cl.slots[j.toNatClampNeg]? = some (.int v) := by
  obtain ⟨cl, A, -, S, M, H, G⟩ := F
  have hin := inb_of S q
  have hlt : j.toNatClampNeg < cl.slots.size := Nat.lt_of_not_le fun y => hin (Or.inr y)
  obtain ⟨v, hv⟩ := fit_I (G _ hlt) (Or.inl rfl)
  exact ⟨cl, v, A, hin, by rw [H _ hlt, hv]⟩
theorem own_len {a : Addr} {k : ClassId} {ty : FieldType} {z : Int32} {vs : List Value} {dv : Value} (F : Arv Z h a k ty z vs dv) : ∃ cl : Cell, Arr Z h a cl ty ∧ cl.slots.size = z.toNatClampNeg ∧ ¬ z < 0 := by
  obtain ⟨cl, A, -, S, M, -, -⟩ := F
  exact ⟨cl, A, S, M⟩
theorem own_at {a : Addr} {k : ClassId} {ty : FieldType} {z j : Int32} {vs : List Value} {dv : Value} (F : Arv Z h a k ty z vs dv) (q : ¬ j < 0 ∧ j < z) {i : Nat} (hj : j.toNatClampNeg = i) {v : Value} (hv : vs.getD i dv = v) : ∃ cl : Cell, Arr Z h a cl ty ∧ ¬ (j < 0 ∨ cl.slots.size ≤ j.toNatClampNeg) ∧ cl.slots[j.toNatClampNeg]? = some v := by
  obtain ⟨cl, A, -, S, M, H, -⟩ := F
  have hin := inb_of S q
  have hlt : j.toNatClampNeg < cl.slots.size := Nat.lt_of_not_le fun y => hin (Or.inr y)
  refine ⟨cl, A, hin, ?_⟩
  rw [H _ hlt, hj, hv]
end OwnKit

theorem pd_0 : parseMethodDescriptor "(III)V" = some ⟨[.int, .int, .int], none⟩ := by decide +kernel
theorem pd_1 : parseMethodDescriptor "()V" = some ⟨[], none⟩ := by decide +kernel
theorem pd_2 : parseMethodDescriptor "()Z" = some ⟨[], some .boolean⟩ := by decide +kernel
theorem pd_3 : parseMethodDescriptor "()I" = some ⟨[], some .int⟩ := by decide +kernel
theorem d2_0 : decode jdk_30_method_1_code 0 = .ok (.aload_n 0, 1) := by decide +kernel
theorem d2_1 : decode jdk_30_method_1_code 1 = .ok (.invokespecial 1, 3) := by decide +kernel
theorem d2_4 : decode jdk_30_method_1_code 4 = .ok (.return_, 1) := by decide +kernel
theorem pn_2 : plainFor (⟨"java/lang/Record", "<init>", "()V"⟩ : MethodName) = true := plainFor_of_name (by first | (simp [plainName, overriddenIn]; done) | decide +kernel)
theorem ef_2 (m : MethodId) (x0 : Addr) : entryFrame m #[(.ref x0)] 1 = mkF m 0 #[.val (.ref x0)] [] := by first | (simp [entryFrame, mkF, argsToLocals, Value.category]; done) | rfl
set_option maxRecDepth 65536 in
set_option maxHeartbeats 40000000 in
theorem rm2 (l : Launch) (Z : State) (tA : Array Value) (hw : ∀ d ∈ tables_1, d.before tA Z = true) (a0 : Addr) (h0 : Heap) :
    own_Met l Z (⟨"java/lang/Record", "<init>", "()V"⟩ : MethodName) jdk_30_method_1_code 1 none ({ frames := 1, cells := 0, slots := 0, locals := 12 } : Room) #[(.ref a0)] h0 (own_P none h0) := by
  refine own_body pn_2 ?_
  intro p e s m below meth c s₁ X0 hx hZ hby hml hown hret hlk hnm e0
  rw [ef_2]
  show own_Go p e below _ (s₁.setTop (mkF m 0 #[.val (.ref a0)] []))
  refine own_st (fun _ k => XS.aloadN X0.here hx rfl (hb hby d2_0) rfl rfl k) ?_
  show own_Go p e below _ (s₁.setTop (mkF m 1 #[.val (.ref a0)] [(.ref a0)]))
  obtain ⟨T1, X1, e1, st1⟩ := initO X0 hx hZ hown (hw _ (List.mem_of_getElem? (i := 11) rfl)) (hw _ (List.mem_of_getElem? (i := 12) rfl)) (hw _ (List.mem_of_getElem? (i := 13) rfl)) e0 (g := (mkF m 1 #[.val (.ref a0)] [(.ref a0)])) rfl (by rw [hml]; rfl) rfl (hb hby d2_1) (by decide) (W := 0) (by show 2 * 0 + _ ≤ _; exact Nat.le_of_eq rfl) (by decide)
  refine own_st st1 ?_
  show own_Go p e below _ (T1.setTop (mkF m 4 #[.val (.ref a0)] []))
  exact own_retV X1 hx hlk hret (hb hby d2_4) ⟨rfl, rfl, e1⟩ (by decide) (by decide)
theorem d1_0 : decode prog_23_method_1_code 0 = .ok (.aload_n 0, 1) := by decide +kernel
theorem d1_1 : decode prog_23_method_1_code 1 = .ok (.invokespecial 3, 3) := by decide +kernel
theorem d1_4 : decode prog_23_method_1_code 4 = .ok (.aload_n 0, 1) := by decide +kernel
theorem d1_5 : decode prog_23_method_1_code 5 = .ok (.iload_n 1, 1) := by decide +kernel
theorem d1_6 : decode prog_23_method_1_code 6 = .ok (.putfield 9, 3) := by decide +kernel
theorem d1_9 : decode prog_23_method_1_code 9 = .ok (.aload_n 0, 1) := by decide +kernel
theorem d1_10 : decode prog_23_method_1_code 10 = .ok (.iload_n 2, 1) := by decide +kernel
theorem d1_11 : decode prog_23_method_1_code 11 = .ok (.putfield 15, 3) := by decide +kernel
theorem d1_14 : decode prog_23_method_1_code 14 = .ok (.aload_n 0, 1) := by decide +kernel
theorem d1_15 : decode prog_23_method_1_code 15 = .ok (.iload_n 3, 1) := by decide +kernel
theorem d1_16 : decode prog_23_method_1_code 16 = .ok (.putfield 18, 3) := by decide +kernel
theorem d1_19 : decode prog_23_method_1_code 19 = .ok (.return_, 1) := by decide +kernel
theorem pn_1 : plainFor (⟨"com/example/rootward/rootward/log/LogFormat$FrameHeader", "<init>", "(III)V"⟩ : MethodName) = true := plainFor_of_name (by first | (simp [plainName, overriddenIn]; done) | decide +kernel)
theorem ef_1 (m : MethodId) (x0 : Addr) (x1 : Int32) (x2 : Int32) (x3 : Int32) : entryFrame m #[(.ref x0), (.int x1), (.int x2), (.int x3)] 4 = mkF m 0 #[.val (.ref x0), .val (.int x1), .val (.int x2), .val (.int x3)] [] := by first | (simp [entryFrame, mkF, argsToLocals, Value.category]; done) | rfl
set_option maxRecDepth 65536 in
set_option maxHeartbeats 40000000 in
theorem rm1 (l : Launch) (Z : State) (tA : Array Value) (hw : ∀ d ∈ tables_1, d.before tA Z = true) (a0 : Addr) (p1 : Int32) (p2 : Int32) (p3 : Int32) (h0 : Heap) (n0 : Nat) (g_a0 : n0 ≤ a0) (E0 : Exa Z h0 a0 "com/example/rootward/rootward/log/LogFormat$FrameHeader") (F0 : Fld Z h0 a0 "com/example/rootward/rootward/log/LogFormat$FrameHeader" "checksum" "I" (.int (0 : Int32))) (F1 : Fld Z h0 a0 "com/example/rootward/rootward/log/LogFormat$FrameHeader" "type" "I" (.int (0 : Int32))) (F2 : Fld Z h0 a0 "com/example/rootward/rootward/log/LogFormat$FrameHeader" "length" "I" (.int (0 : Int32))) :
    own_Met l Z (⟨"com/example/rootward/rootward/log/LogFormat$FrameHeader", "<init>", "(III)V"⟩ : MethodName) prog_23_method_1_code 4 none ({ frames := 2, cells := 0, slots := 0, locals := 24 } : Room) #[(.ref a0), (.int p1), (.int p2), (.int p3)] h0 (fun v h L => v = none ∧ Fr n0 L ∧ Keep h0 h [a0] ∧ Fld Z h a0 "com/example/rootward/rootward/log/LogFormat$FrameHeader" "checksum" "I" (.int p1) ∧ Fld Z h a0 "com/example/rootward/rootward/log/LogFormat$FrameHeader" "type" "I" (.int p2) ∧ Fld Z h a0 "com/example/rootward/rootward/log/LogFormat$FrameHeader" "length" "I" (.int p3)) := by
  refine own_body pn_1 ?_
  intro p e s m below meth c s₁ X0 hx hZ hby hml hown hret hlk hnm e0
  have N0 := Fr.nil n0
  have K0 := Keep.refl h0 [a0]
  rw [ef_1]
  show own_Go p e below _ (s₁.setTop (mkF m 0 #[.val (.ref a0), .val (.int p1), .val (.int p2), .val (.int p3)] []))
  refine own_st (fun _ k => XS.aloadN X0.here hx rfl (hb hby d1_0) rfl rfl k) ?_
  show own_Go p e below _ (s₁.setTop (mkF m 1 #[.val (.ref a0), .val (.int p1), .val (.int p2), .val (.int p3)] [(.ref a0)]))
  obtain ⟨_, T1, _, X1, ⟨rfl, rfl, e1⟩, st1⟩ := own_callI X0 hx hZ (y := (⟨"java/lang/Record", "<init>", "()V"⟩ : MethodName)) (a := a0) (argsL := []) (rest := []) (W := 0) (g := (mkF m 1 #[.val (.ref a0), .val (.int p1), .val (.int p2), .val (.int p3)] [(.ref a0)])) (rm2 l Z tA hw a0 h0) rfl hown (hw _ (List.mem_of_getElem? (i := 6) rfl)) (hw _ (List.mem_of_getElem? (i := 7) rfl)) (hw _ (List.mem_of_getElem? (i := 9) rfl)) (hw _ (List.mem_of_getElem? (i := 10) rfl)) (by decide) e0 rfl (by rw [hml]; rfl) pd_1 rfl rfl (by show 2 * 0 + _ ≤ _; exact Nat.le_of_eq rfl) (hb hby d1_1) (by decide) (by decide) (by decide) (by decide)
  replace X1 := own_flat X1
  refine own_st st1 ?_
  show own_Go p e below _ (T1.setTop (mkF m 4 #[.val (.ref a0), .val (.int p1), .val (.int p2), .val (.int p3)] []))
  refine own_st (fun _ k => XS.aloadN X1.here hx rfl (hb hby d1_4) rfl rfl k) ?_
  show own_Go p e below _ (T1.setTop (mkF m 5 #[.val (.ref a0), .val (.int p1), .val (.int p2), .val (.int p3)] [(.ref a0)]))
  refine own_st (fun _ k => XS.iloadN X1.here hx rfl (hb hby d1_5) rfl k) ?_
  show own_Go p e below _ (T1.setTop (mkF m 6 #[.val (.ref a0), .val (.int p1), .val (.int p2), .val (.int p3)] [(.int p1), (.ref a0)]))
  obtain ⟨T2, h2, X2, e2, W2, st2⟩ := putF X1 hx hZ hown (host := "") (Or.inl (hw _ (List.mem_of_getElem? (i := 14) rfl))) Via.refl e1 F0 E0 (Or.inr ⟨(hw _ (List.mem_of_getElem? (i := 15) rfl)), rfl, hnm⟩) (hw _ (List.mem_of_getElem? (i := 1) rfl)) (ty := .int) (by decide) rfl rfl (g := (mkF m 6 #[.val (.ref a0), .val (.int p1), .val (.int p2), .val (.int p3)] [(.int p1), (.ref a0)])) rfl rfl (hb hby d1_6)
  refine own_st st2 ?_
  replace E0 := E0.wr W2
  replace F1 := F1.other W2 (Or.inr (slot_ne (Or.inr (hw _ (List.mem_of_getElem? (i := 17) rfl))) (Or.inr (hw _ (List.mem_of_getElem? (i := 15) rfl))) (by decide) (t := .int) (t' := .int) (by decide) (by decide)))
  replace F2 := F2.other W2 (Or.inr (slot_ne (Or.inr (hw _ (List.mem_of_getElem? (i := 19) rfl))) (Or.inr (hw _ (List.mem_of_getElem? (i := 15) rfl))) (by decide) (t := .int) (t' := .int) (by decide) (by decide)))
  replace K0 := K0.wr W2 (Or.inl (by simp))
  replace N0 := Fr.snoc X2 N0 g_a0
  replace F0 := F0.same W2
  show own_Go p e below _ (T2.setTop (mkF m 9 #[.val (.ref a0), .val (.int p1), .val (.int p2), .val (.int p3)] []))
  refine own_st (fun _ k => XS.aloadN X2.here hx rfl (hb hby d1_9) rfl rfl k) ?_
  show own_Go p e below _ (T2.setTop (mkF m 10 #[.val (.ref a0), .val (.int p1), .val (.int p2), .val (.int p3)] [(.ref a0)]))
  refine own_st (fun _ k => XS.iloadN X2.here hx rfl (hb hby d1_10) rfl k) ?_
  show own_Go p e below _ (T2.setTop (mkF m 11 #[.val (.ref a0), .val (.int p1), .val (.int p2), .val (.int p3)] [(.int p2), (.ref a0)]))
  obtain ⟨T3, h3, X3, e3, W3, st3⟩ := putF X2 hx hZ hown (host := "") (Or.inl (hw _ (List.mem_of_getElem? (i := 16) rfl))) Via.refl e2 F1 E0 (Or.inr ⟨(hw _ (List.mem_of_getElem? (i := 17) rfl)), rfl, hnm⟩) (hw _ (List.mem_of_getElem? (i := 1) rfl)) (ty := .int) (by decide) rfl rfl (g := (mkF m 11 #[.val (.ref a0), .val (.int p1), .val (.int p2), .val (.int p3)] [(.int p2), (.ref a0)])) rfl rfl (hb hby d1_11)
  refine own_st st3 ?_
  replace E0 := E0.wr W3
  replace F0 := F0.other W3 (Or.inr (slot_ne (Or.inr (hw _ (List.mem_of_getElem? (i := 15) rfl))) (Or.inr (hw _ (List.mem_of_getElem? (i := 17) rfl))) (by decide) (t := .int) (t' := .int) (by decide) (by decide)))
  replace F2 := F2.other W3 (Or.inr (slot_ne (Or.inr (hw _ (List.mem_of_getElem? (i := 19) rfl))) (Or.inr (hw _ (List.mem_of_getElem? (i := 17) rfl))) (by decide) (t := .int) (t' := .int) (by decide) (by decide)))
  replace K0 := K0.wr W3 (Or.inl (by simp))
  replace N0 := Fr.snoc X3 N0 g_a0
  replace F1 := F1.same W3
  show own_Go p e below _ (T3.setTop (mkF m 14 #[.val (.ref a0), .val (.int p1), .val (.int p2), .val (.int p3)] []))
  refine own_st (fun _ k => XS.aloadN X3.here hx rfl (hb hby d1_14) rfl rfl k) ?_
  show own_Go p e below _ (T3.setTop (mkF m 15 #[.val (.ref a0), .val (.int p1), .val (.int p2), .val (.int p3)] [(.ref a0)]))
  refine own_st (fun _ k => XS.iloadN X3.here hx rfl (hb hby d1_15) rfl k) ?_
  show own_Go p e below _ (T3.setTop (mkF m 16 #[.val (.ref a0), .val (.int p1), .val (.int p2), .val (.int p3)] [(.int p3), (.ref a0)]))
  obtain ⟨T4, h4, X4, e4, W4, st4⟩ := putF X3 hx hZ hown (host := "") (Or.inl (hw _ (List.mem_of_getElem? (i := 18) rfl))) Via.refl e3 F2 E0 (Or.inr ⟨(hw _ (List.mem_of_getElem? (i := 19) rfl)), rfl, hnm⟩) (hw _ (List.mem_of_getElem? (i := 1) rfl)) (ty := .int) (by decide) rfl rfl (g := (mkF m 16 #[.val (.ref a0), .val (.int p1), .val (.int p2), .val (.int p3)] [(.int p3), (.ref a0)])) rfl rfl (hb hby d1_16)
  refine own_st st4 ?_
  replace E0 := E0.wr W4
  replace F0 := F0.other W4 (Or.inr (slot_ne (Or.inr (hw _ (List.mem_of_getElem? (i := 15) rfl))) (Or.inr (hw _ (List.mem_of_getElem? (i := 19) rfl))) (by decide) (t := .int) (t' := .int) (by decide) (by decide)))
  replace F1 := F1.other W4 (Or.inr (slot_ne (Or.inr (hw _ (List.mem_of_getElem? (i := 17) rfl))) (Or.inr (hw _ (List.mem_of_getElem? (i := 19) rfl))) (by decide) (t := .int) (t' := .int) (by decide) (by decide)))
  replace K0 := K0.wr W4 (Or.inl (by simp))
  replace N0 := Fr.snoc X4 N0 g_a0
  replace F2 := F2.same W4
  show own_Go p e below _ (T4.setTop (mkF m 19 #[.val (.ref a0), .val (.int p1), .val (.int p2), .val (.int p3)] []))
  exact own_retV X4 hx hlk hret (hb hby d1_19) ⟨rfl, N0, by rw [e4]; exact ⟨K0, F0, F1, F2⟩⟩ (by decide) (by decide)
def own_m_15 (w1 : Int32) : Int32 := (0 : Int32)
def own_m_0 (w1 : Int32) : Int32 := (if (w1 &&& (128 : Int32)) = (0 : Int32) then (own_m_15 w1) else (1 : Int32))
theorem d4_0 : decode prog_23_method_8_code 0 = .ok (.aload_n 0, 1) := by decide +kernel
theorem d4_1 : decode prog_23_method_8_code 1 = .ok (.getfield 15, 3) := by decide +kernel
theorem d4_4 : decode prog_23_method_8_code 4 = .ok (.sipush 128, 3) := by decide +kernel
theorem d4_7 : decode prog_23_method_8_code 7 = .ok (.iand, 1) := by decide +kernel
theorem d4_8 : decode prog_23_method_8_code 8 = .ok (.ifCond .eq 7, 3) := by decide +kernel
theorem d4_11 : decode prog_23_method_8_code 11 = .ok (.iconst 1, 1) := by decide +kernel
theorem d4_12 : decode prog_23_method_8_code 12 = .ok (.goto 4, 3) := by decide +kernel
theorem d4_15 : decode prog_23_method_8_code 15 = .ok (.iconst 0, 1) := by decide +kernel
theorem d4_16 : decode prog_23_method_8_code 16 = .ok (.ireturn, 1) := by decide +kernel
theorem pn_4 : plainFor (⟨"com/example/rootward/rootward/log/LogFormat$FrameHeader", "hasMoreFragments", "()Z"⟩ : MethodName) = true := plainFor_of_name (by first | (simp [plainName, overriddenIn]; done) | decide +kernel)
theorem ef_4 (m : MethodId) (x0 : Addr) : entryFrame m #[(.ref x0)] 1 = mkF m 0 #[.val (.ref x0)] [] := by first | (simp [entryFrame, mkF, argsToLocals, Value.category]; done) | rfl
set_option maxRecDepth 65536 in
set_option maxHeartbeats 40000000 in
theorem rm4 (l : Launch) (Z : State) (tA : Array Value) (hw : ∀ d ∈ tables_1, d.before tA Z = true) (a0 : Addr) (w1 : Int32) (h0 : Heap) (F0 : Fld Z h0 a0 "com/example/rootward/rootward/log/LogFormat$FrameHeader" "type" "I" (.int w1)) :
    own_Met l Z (⟨"com/example/rootward/rootward/log/LogFormat$FrameHeader", "hasMoreFragments", "()Z"⟩ : MethodName) prog_23_method_8_code 1 (some .boolean) ({ frames := 0, cells := 0, slots := 0, locals := 0 } : Room) #[(.ref a0)] h0 (own_P (some (.int (own_m_0 w1))) h0) := by
  refine own_body pn_4 ?_
  intro p e s m below meth c s₁ X0 hx hZ hby hml hown hret hlk hnm e0
  have B15 : ∀ (T0 : State), Stand p l e ({ frames := 0, cells := 0, slots := 0, locals := 0 } : Room) s m #[(.ref a0)] below meth c T0 [] 0 0 → T0.heap = h0 → own_m_15 w1 = own_m_0 w1 → own_Go p e below (own_Post s (own_P (some (.int (own_m_0 w1))) h0) ({ frames := 0, cells := 0, slots := 0, locals := 0 } : Room).cells ({ frames := 0, cells := 0, slots := 0, locals := 0 } : Room).slots) (T0.setTop (mkF m 15 #[.val (.ref a0)] [])) := by
    intro T0 X0 e0 hbk
    show own_Go p e below _ (T0.setTop (mkF m 15 #[.val (.ref a0)] []))
    refine own_st (fun _ k => XS.iconst X0.here hx rfl (hb hby d4_15) k) ?_
    show own_Go p e below _ (T0.setTop (mkF m 16 #[.val (.ref a0)] [(.int (0 : Int32))]))
    exact own_retZ X0 hx hlk hret rfl (hb hby d4_16) ⟨congrArg (fun z => some (Value.int z)) ((show own_m_15 w1 = (0 : Int32) from rfl).symm.trans hbk), rfl, e0⟩ (by decide) (by decide)
  have B0 : ∀ (T0 : State), Stand p l e ({ frames := 0, cells := 0, slots := 0, locals := 0 } : Room) s m #[(.ref a0)] below meth c T0 [] 0 0 → T0.heap = h0 → own_m_0 w1 = own_m_0 w1 → own_Go p e below (own_Post s (own_P (some (.int (own_m_0 w1))) h0) ({ frames := 0, cells := 0, slots := 0, locals := 0 } : Room).cells ({ frames := 0, cells := 0, slots := 0, locals := 0 } : Room).slots) (T0.setTop (mkF m 0 #[.val (.ref a0)] [])) := by
    intro T0 X0 e0 hbk
    show own_Go p e below _ (T0.setTop (mkF m 0 #[.val (.ref a0)] []))
    refine own_st (fun _ k => XS.aloadN X0.here hx rfl (hb hby d4_0) rfl rfl k) ?_
    show own_Go p e below _ (T0.setTop (mkF m 1 #[.val (.ref a0)] [(.ref a0)]))
    obtain ⟨T1, X1, e1, st1⟩ := getF X0 hx hZ hown (host := "") (Or.inl (hw _ (List.mem_of_getElem? (i := 16) rfl))) Via.refl e0 F0 (g := (mkF m 1 #[.val (.ref a0)] [(.ref a0)])) rfl rfl (hb hby d4_1)
    refine own_st st1 ?_
    show own_Go p e below _ (T1.setTop (mkF m 4 #[.val (.ref a0)] [(.int w1)]))
    refine own_st (fun _ k => XS.sipush X1.here hx rfl (hb hby d4_4) k) ?_
    show own_Go p e below _ (T1.setTop (mkF m 7 #[.val (.ref a0)] [(.int (128 : Int32)), (.int w1)]))
    refine own_st (fun _ k => XS.iand X1.here hx rfl (hb hby d4_7) rfl k) ?_
    show own_Go p e below _ (T1.setTop (mkF m 8 #[.val (.ref a0)] [(.int (w1 &&& (128 : Int32)))]))
    by_cases hc8 : (w1 &&& (128 : Int32)) = (0 : Int32)
    · refine own_st (fun _ k => XS.ifYes X1.here hx rfl (pc0 := 8) (pc' := 15) rfl (hb hby d4_8) rfl ((own_i0 _ _).trans (own_yes (hc8 : (w1 &&& (128 : Int32)) = (0 : Int32)))) (by decide) (by decide) k) ?_
      show own_Go p e below _ (T1.setTop (mkF m 15 #[.val (.ref a0)] []))
      exact B15 T1 X1 e1 ((show own_m_0 w1 = own_m_15 w1 from (if_pos hc8)).symm.trans hbk)
    · refine own_st (fun _ k => XS.ifNo X1.here hx rfl (hb hby d4_8) rfl ((own_i0 _ _).trans (own_no (hc8 : ¬ ((w1 &&& (128 : Int32)) = (0 : Int32))))) k) ?_
      show own_Go p e below _ (T1.setTop (mkF m 11 #[.val (.ref a0)] []))
      refine own_st (fun _ k => XS.iconst X1.here hx rfl (hb hby d4_11) k) ?_
      show own_Go p e below _ (T1.setTop (mkF m 12 #[.val (.ref a0)] [(.int (1 : Int32))]))
      refine own_st (fun _ k => XS.goto X1.here hx rfl (pc0 := 12) (pc' := 16) rfl (hb hby d4_12) (by decide) (by decide) k) ?_
      show own_Go p e below _ (T1.setTop (mkF m 16 #[.val (.ref a0)] [(.int (1 : Int32))]))
      exact own_retZ X1 hx hlk hret rfl (hb hby d4_16) ⟨congrArg (fun z => some (Value.int z)) ((show own_m_0 w1 = (1 : Int32) from (if_neg hc8)).symm.trans hbk), rfl, e1⟩ (by decide) (by decide)
  rw [ef_4]
  exact B0 _ X0 e0 rfl
def own_e_0 (w1 : Int32) : Int32 := (w1 &&& (-129 : Int32))
theorem d5_0 : decode prog_23_method_7_code 0 = .ok (.aload_n 0, 1) := by decide +kernel
theorem d5_1 : decode prog_23_method_7_code 1 = .ok (.getfield 15, 3) := by decide +kernel
theorem d5_4 : decode prog_23_method_7_code 4 = .ok (.sipush (-129), 3) := by decide +kernel
theorem d5_7 : decode prog_23_method_7_code 7 = .ok (.iand, 1) := by decide +kernel
theorem d5_8 : decode prog_23_method_7_code 8 = .ok (.ireturn, 1) := by decide +kernel
theorem pn_5 : plainFor (⟨"com/example/rootward/rootward/log/LogFormat$FrameHeader", "entryType", "()I"⟩ : MethodName) = true := plainFor_of_name (by first | (simp [plainName, overriddenIn]; done) | decide +kernel)
theorem ef_5 (m : MethodId) (x0 : Addr) : entryFrame m #[(.ref x0)] 1 = mkF m 0 #[.val (.ref x0)] [] := by first | (simp [entryFrame, mkF, argsToLocals, Value.category]; done) | rfl
set_option maxRecDepth 65536 in
set_option maxHeartbeats 40000000 in
theorem rm5 (l : Launch) (Z : State) (tA : Array Value) (hw : ∀ d ∈ tables_1, d.before tA Z = true) (a0 : Addr) (w1 : Int32) (h0 : Heap) (F0 : Fld Z h0 a0 "com/example/rootward/rootward/log/LogFormat$FrameHeader" "type" "I" (.int w1)) :
    own_Met l Z (⟨"com/example/rootward/rootward/log/LogFormat$FrameHeader", "entryType", "()I"⟩ : MethodName) prog_23_method_7_code 1 (some .int) ({ frames := 0, cells := 0, slots := 0, locals := 0 } : Room) #[(.ref a0)] h0 (own_P (some (.int (own_e_0 w1))) h0) := by
  refine own_body pn_5 ?_
  intro p e s m below meth c s₁ X0 hx hZ hby hml hown hret hlk hnm e0
  have B0 : ∀ (T0 : State), Stand p l e ({ frames := 0, cells := 0, slots := 0, locals := 0 } : Room) s m #[(.ref a0)] below meth c T0 [] 0 0 → T0.heap = h0 → own_e_0 w1 = own_e_0 w1 → own_Go p e below (own_Post s (own_P (some (.int (own_e_0 w1))) h0) ({ frames := 0, cells := 0, slots := 0, locals := 0 } : Room).cells ({ frames := 0, cells := 0, slots := 0, locals := 0 } : Room).slots) (T0.setTop (mkF m 0 #[.val (.ref a0)] [])) := by
    intro T0 X0 e0 hbk
    show own_Go p e below _ (T0.setTop (mkF m 0 #[.val (.ref a0)] []))
    refine own_st (fun _ k => XS.aloadN X0.here hx rfl (hb hby d5_0) rfl rfl k) ?_
    show own_Go p e below _ (T0.setTop (mkF m 1 #[.val (.ref a0)] [(.ref a0)]))
    obtain ⟨T1, X1, e1, st1⟩ := getF X0 hx hZ hown (host := "") (Or.inl (hw _ (List.mem_of_getElem? (i := 16) rfl))) Via.refl e0 F0 (g := (mkF m 1 #[.val (.ref a0)] [(.ref a0)])) rfl rfl (hb hby d5_1)
    refine own_st st1 ?_
    show own_Go p e below _ (T1.setTop (mkF m 4 #[.val (.ref a0)] [(.int w1)]))
    refine own_st (fun _ k => XS.sipush X1.here hx rfl (hb hby d5_4) k) ?_
    show own_Go p e below _ (T1.setTop (mkF m 7 #[.val (.ref a0)] [(.int (-129 : Int32)), (.int w1)]))
    refine own_st (fun _ k => XS.iand X1.here hx rfl (hb hby d5_7) rfl k) ?_
    show own_Go p e below _ (T1.setTop (mkF m 8 #[.val (.ref a0)] [(.int (w1 &&& (-129 : Int32)))]))
    exact own_retI X1 hx hlk hret (hb hby d5_8) ⟨congrArg (fun z => some (Value.int z)) ((show own_e_0 w1 = (w1 &&& (-129 : Int32)) from rfl).symm.trans hbk), rfl, e1⟩ (by decide) (by decide)
  rw [ef_5]
  exact B0 _ X0 e0 rfl
theorem own_b7 (n : Nat) : n &&& 128 = n / 128 % 2 * 128 := by
  have e1 : (n &&& 128) % 2 ^ 7 = 0 := by rw [Nat.and_mod_two_pow]; exact Nat.and_zero _
  have e2 : (n &&& 128) / 2 ^ 7 = n / 128 % 2 := by
    rw [← Nat.shiftRight_eq_div_pow, Nat.shiftRight_and_distrib, Nat.shiftRight_eq_div_pow]
    exact Nat.and_one_is_mod _
  omega
theorem own_bit7 (x : Int32) : (x &&& (128 : Int32)).toBitVec.toNat = x.toBitVec.toNat / 128 % 2 * 128 := by
  rw [Int32.toBitVec_and, BitVec.toNat_and]
  exact own_b7 x.toBitVec.toNat
theorem own_or7 (x : Int32) : ((x &&& (-129 : Int32)) ||| (x &&& (128 : Int32))) = x := by
  apply Int32.toBitVec_inj.mp
  rw [Int32.toBitVec_or, Int32.toBitVec_and, Int32.toBitVec_and]
  have e : (-129 : Int32).toBitVec = ~~~ (128 : Int32).toBitVec := by decide
  rw [e]
  generalize x.toBitVec = u
  generalize (128 : Int32).toBitVec = v
  apply BitVec.eq_of_getLsbD_eq
  intro i hi
  rw [BitVec.getLsbD_or, BitVec.getLsbD_and, BitVec.getLsbD_and, BitVec.getLsbD_not]
  cases u.getLsbD i <;> cases v.getLsbD i <;> simp [hi]
theorem own_m0 {x : Int32} (h : own_m_0 x = 0) : (x &&& (128 : Int32)) = 0 := by
  by_cases q : (x &&& (128 : Int32)) = 0
  · exact q
  · rw [show own_m_0 x = 1 from if_neg q] at h; exact absurd h (by decide)
theorem own_m1 {x : Int32} (h : ¬ own_m_0 x = 0) : (x &&& (128 : Int32)) = 128 := by
  by_cases q : (x &&& (128 : Int32)) = 0
  · exact absurd (show own_m_0 x = 0 from if_pos q) h
  · apply Int32.toBitVec_inj.mp
    apply BitVec.eq_of_toNat_eq
    have e := own_bit7 x
    rcases Nat.mod_two_eq_zero_or_one (x.toBitVec.toNat / 128) with hz | hz
    · rw [hz] at e
      exact absurd (Int32.toBitVec_inj.mp (BitVec.eq_of_toNat_eq (e.trans rfl))) q
    · rw [hz] at e
      exact e
theorem own_k0 (x : Int32) (h : own_m_0 x = (0 : Int32)) : (own_e_0 x ||| (0 : Int32)) = x := by
  have e := own_or7 x
  rw [own_m0 h] at e
  exact e
theorem own_k1 (x : Int32) (h : ¬ own_m_0 x = (0 : Int32)) : (own_e_0 x ||| (128 : Int32)) = x := by
  have e := own_or7 x
  rw [own_m1 h] at e
  exact e
theorem own_byte (x : Int32) : (x &&& (255 : Int32)).toInt = ((x &&& (255 : Int32)).toBitVec.toNat : Int) ∧ (x &&& (255 : Int32)).toBitVec.toNat < 256 := by
  have l : (x &&& (255 : Int32)).toBitVec.toNat < 256 := by
    rw [Int32.toBitVec_and, BitVec.toNat_and]
    exact Nat.and_lt_two_pow (n := 8) _ (by decide)
  refine ⟨?_, l⟩
  have d : (x &&& (255 : Int32)).toInt = (x &&& (255 : Int32)).toBitVec.toInt := rfl
  rw [d, BitVec.toInt_eq_toNat_cond, if_pos (by omega)]
theorem own_q0 (x : Int32) (h : (x &&& (255 : Int32)) < (128 : Int32)) : own_m_0 (x &&& (255 : Int32)) = (0 : Int32) := by
  obtain ⟨e1, e2⟩ := own_byte x
  rw [Int32.lt_iff_toInt_lt] at h
  have e3 : (128 : Int32).toInt = 128 := rfl
  refine if_pos (Int32.toBitVec_inj.mp (BitVec.eq_of_toNat_eq ?_))
  rw [own_bit7]
  show _ = 0
  omega
theorem own_q1 (x : Int32) (h : ¬ (x &&& (255 : Int32)) < (128 : Int32)) : own_m_0 (x &&& (255 : Int32)) = (1 : Int32) := by
  obtain ⟨e1, e2⟩ := own_byte x
  rw [Int32.lt_iff_toInt_lt] at h
  have e3 : (128 : Int32).toInt = 128 := rfl
  refine if_neg fun q => ?_
  have e4 := congrArg (fun z : Int32 => z.toBitVec.toNat) q
  simp only [own_bit7] at e4
  have e5 : (0 : Int32).toBitVec.toNat = 0 := rfl
  omega
theorem pn_0 : plainFor (⟨"com/example/rootward/rootward/log/FrameHeaderHasMoreFragmentsPinLaw", "law", "(III)Z"⟩ : MethodName) = true := plainFor_of_name (by first | (simp [plainName, overriddenIn]; done) | decide +kernel)
theorem ef_0 (m : MethodId) (x0 : Int32) (x1 : Int32) (x2 : Int32) : entryFrame m #[(.int x0), (.int x1), (.int x2)] maxLocals = mkF m 0 #[.val (.int x0), .val (.int x1), .val (.int x2), .unset, .unset, .unset, .unset, .unset, .unset, .unset] [] := by first | (simp [entryFrame, mkF, argsToLocals, Value.category, maxLocals]; done) | rfl
set_option maxRecDepth 65536 in
set_option maxHeartbeats 40000000 in
theorem rm0 (l : Launch) (Z : State) (tA : Array Value) (hw : ∀ d ∈ tables_1, d.before tA Z = true) (p0 : Int32) (p1 : Int32) (p2 : Int32) (h0 : Heap) (n0 : Nat) (Z0 : n0 ≤ h0.size) :
    MetFree l x (head1 (Jvm.Cond.code x code maxLocals ret :: tables_1) room_1) (fun a U => a = #[(.int p0), (.int p1), (.int p2)] ∧ Z.Warmed39 U.vm ∧ U.heap = h0) (fun _ _ _ _ _ => True) (fun _ U o U' => own_Post U (fun v _ L => v = some (.int (1 : Int32)) ∧ Fr n0 L) 16 128 o U') := by
  refine own_body pn_0 ?_
  intro p e s m below meth c s₁ X0 hx hZ hby hml hown hret hlk hnm e0
  have N0 := Fr.nil n0
  rw [ef_0]
  show own_Go p e below _ (s₁.setTop (mkF m 0 #[.val (.int p0), .val (.int p1), .val (.int p2), .unset, .unset, .unset, .unset, .unset, .unset, .unset] []))
  obtain ⟨T1, h1, X1, e1, E1, A1, D1, -, st1⟩ := newO X0 hx hZ hown (hw _ (List.mem_of_getElem? (i := 0) rfl)) (hw _ (List.mem_of_getElem? (i := 1) rfl)) (hw _ (List.mem_of_getElem? (i := 2) rfl)) e0 (g := (mkF m 0 #[.val (.int p0), .val (.int p1), .val (.int p2), .unset, .unset, .unset, .unset, .unset, .unset, .unset] [])) rfl (hb hby at_0) (by decide) (by decide)
  refine own_st st1 ?_
  obtain ⟨b1, g1⟩ : ∃ z, z = h0.size := ⟨_, rfl⟩
  rw [← g1] at A1 D1 ⊢
  have g_b1 : n0 ≤ b1 := Nat.le_trans Z0 (Nat.le_of_eq g1.symm)
  replace Z0 := Nat.le_trans Z0 E1.1
  have F_checksum_b1 : Fld Z h1 b1 "com/example/rootward/rootward/log/LogFormat$FrameHeader" "checksum" "I" (.int (0 : Int32)) := D1 (Or.inr (hw _ (List.mem_of_getElem? (i := 15) rfl))) (ty := .int) (by decide)
  have F_type_b1 : Fld Z h1 b1 "com/example/rootward/rootward/log/LogFormat$FrameHeader" "type" "I" (.int (0 : Int32)) := D1 (Or.inr (hw _ (List.mem_of_getElem? (i := 17) rfl))) (ty := .int) (by decide)
  have F_length_b1 : Fld Z h1 b1 "com/example/rootward/rootward/log/LogFormat$FrameHeader" "length" "I" (.int (0 : Int32)) := D1 (Or.inr (hw _ (List.mem_of_getElem? (i := 19) rfl))) (ty := .int) (by decide)
  show own_Go p e below _ (T1.setTop (mkF m 3 #[.val (.int p0), .val (.int p1), .val (.int p2), .unset, .unset, .unset, .unset, .unset, .unset, .unset] [(.ref b1)]))
  refine own_st (fun _ k => XS.dup X1.here hx rfl (hb hby at_3) rfl rfl k) ?_
  show own_Go p e below _ (T1.setTop (mkF m 4 #[.val (.int p0), .val (.int p1), .val (.int p2), .unset, .unset, .unset, .unset, .unset, .unset, .unset] [(.ref b1), (.ref b1)]))
  refine own_st (fun _ k => XS.iloadN X1.here hx rfl (hb hby at_4) rfl k) ?_
  show own_Go p e below _ (T1.setTop (mkF m 5 #[.val (.int p0), .val (.int p1), .val (.int p2), .unset, .unset, .unset, .unset, .unset, .unset, .unset] [(.int p0), (.ref b1), (.ref b1)]))
  refine own_st (fun _ k => XS.iloadN X1.here hx rfl (hb hby at_5) rfl k) ?_
  show own_Go p e below _ (T1.setTop (mkF m 6 #[.val (.int p0), .val (.int p1), .val (.int p2), .unset, .unset, .unset, .unset, .unset, .unset, .unset] [(.int p1), (.int p0), (.ref b1), (.ref b1)]))
  refine own_st (fun _ k => XS.iloadN X1.here hx rfl (hb hby at_6) rfl k) ?_
  show own_Go p e below _ (T1.setTop (mkF m 7 #[.val (.int p0), .val (.int p1), .val (.int p2), .unset, .unset, .unset, .unset, .unset, .unset, .unset] [(.int p2), (.int p1), (.int p0), (.ref b1), (.ref b1)]))
  obtain ⟨_, T2, L2, X2, hQ2, st2⟩ := own_callI X1 hx hZ (y := (⟨"com/example/rootward/rootward/log/LogFormat$FrameHeader", "<init>", "(III)V"⟩ : MethodName)) (a := b1) (argsL := [(.int p0), (.int p1), (.int p2)]) (rest := [(.ref b1)]) (W := 1) (g := (mkF m 7 #[.val (.int p0), .val (.int p1), .val (.int p2), .unset, .unset, .unset, .unset, .unset, .unset, .unset] [(.int p2), (.int p1), (.int p0), (.ref b1), (.ref b1)])) (rm1 l Z tA hw b1 p0 p1 p2 h1 n0 g_b1 A1 F_checksum_b1 F_type_b1 F_length_b1) rfl hown (hw _ (List.mem_of_getElem? (i := 3) rfl)) (hw _ (List.mem_of_getElem? (i := 4) rfl)) (hw _ (List.mem_of_getElem? (i := 2) rfl)) (hw _ (List.mem_of_getElem? (i := 5) rfl)) (by decide) e1 rfl (by rw [hml]; rfl) pd_0 rfl rfl (by show 2 * 0 + _ ≤ _; exact Nat.le_of_eq rfl) (hb hby at_7) (by decide) (by decide) (by decide) (by decide)
  obtain ⟨h2, e2⟩ : ∃ z, T2.heap = z := ⟨_, rfl⟩
  rw [e2] at hQ2
  obtain ⟨rfl, Nq2, Kq2, Fq2_0, Fq2_1, Fq2_2⟩ := hQ2
  replace A1 := A1.keep Kq2
  replace Z0 := Nat.le_trans Z0 Kq2.1
  replace N0 := Fr.app N0 Nq2
  refine own_st st2 ?_
  show own_Go p e below _ (T2.setTop (mkF m 10 #[.val (.int p0), .val (.int p1), .val (.int p2), .unset, .unset, .unset, .unset, .unset, .unset, .unset] [(.ref b1)]))
  refine own_st (fun _ k => XS.astoreN X2.here hx rfl (hb hby at_10) rfl rfl (l' := #[.val (.int p0), .val (.int p1), .val (.int p2), .val (.ref b1), .unset, .unset, .unset, .unset, .unset, .unset]) rfl k) ?_
  show own_Go p e below _ (T2.setTop (mkF m 11 #[.val (.int p0), .val (.int p1), .val (.int p2), .val (.ref b1), .unset, .unset, .unset, .unset, .unset, .unset] []))
  refine own_st (fun _ k => XS.aloadN X2.here hx rfl (hb hby at_11) rfl rfl k) ?_
  show own_Go p e below _ (T2.setTop (mkF m 12 #[.val (.int p0), .val (.int p1), .val (.int p2), .val (.ref b1), .unset, .unset, .unset, .unset, .unset, .unset] [(.ref b1)]))
  obtain ⟨_, T3, _, X3, ⟨rfl, rfl, e3⟩, st3⟩ := own_callV X2 hx hZ (y := (⟨"com/example/rootward/rootward/log/LogFormat$FrameHeader", "hasMoreFragments", "()Z"⟩ : MethodName)) (a := b1) (argsL := []) (rest := []) (W := 0) (g := (mkF m 12 #[.val (.int p0), .val (.int p1), .val (.int p2), .val (.ref b1), .unset, .unset, .unset, .unset, .unset, .unset] [(.ref b1)])) (rm4 l Z tA hw b1 p1 h2 Fq2_1) A1 hown (hw _ (List.mem_of_getElem? (i := 20) rfl)) (hw _ (List.mem_of_getElem? (i := 21) rfl)) (hw _ (List.mem_of_getElem? (i := 23) rfl)) (hw _ (List.mem_of_getElem? (i := 22) rfl)) (hw _ (List.mem_of_getElem? (i := 2) rfl)) (hw _ (List.mem_of_getElem? (i := 24) rfl)) (by decide) e2 rfl (by rw [hml]; rfl) pd_2 rfl rfl (by show 2 * 0 + _ ≤ _; exact Nat.le_of_eq rfl) (hb hby at_12) (by decide) (by decide) (by decide) (by decide)
  replace X3 := own_flat X3
  refine own_st st3 ?_
  show own_Go p e below _ (T3.setTop (mkF m 15 #[.val (.int p0), .val (.int p1), .val (.int p2), .val (.ref b1), .unset, .unset, .unset, .unset, .unset, .unset] [(.int (own_m_0 p1))]))
  refine own_st (fun _ k => XS.istore X3.here hx rfl (hb hby at_15) rfl (l' := #[.val (.int p0), .val (.int p1), .val (.int p2), .val (.ref b1), .val (.int (own_m_0 p1)), .unset, .unset, .unset, .unset, .unset]) rfl k) ?_
  show own_Go p e below _ (T3.setTop (mkF m 17 #[.val (.int p0), .val (.int p1), .val (.int p2), .val (.ref b1), .val (.int (own_m_0 p1)), .unset, .unset, .unset, .unset, .unset] []))
  refine own_st (fun _ k => XS.aloadN X3.here hx rfl (hb hby at_17) rfl rfl k) ?_
  show own_Go p e below _ (T3.setTop (mkF m 18 #[.val (.int p0), .val (.int p1), .val (.int p2), .val (.ref b1), .val (.int (own_m_0 p1)), .unset, .unset, .unset, .unset, .unset] [(.ref b1)]))
  obtain ⟨_, T4, _, X4, ⟨rfl, rfl, e4⟩, st4⟩ := own_callV X3 hx hZ (y := (⟨"com/example/rootward/rootward/log/LogFormat$FrameHeader", "entryType", "()I"⟩ : MethodName)) (a := b1) (argsL := []) (rest := []) (W := 0) (g := (mkF m 18 #[.val (.int p0), .val (.int p1), .val (.int p2), .val (.ref b1), .val (.int (own_m_0 p1)), .unset, .unset, .unset, .unset, .unset] [(.ref b1)])) (rm5 l Z tA hw b1 p1 h2 Fq2_1) A1 hown (hw _ (List.mem_of_getElem? (i := 25) rfl)) (hw _ (List.mem_of_getElem? (i := 26) rfl)) (hw _ (List.mem_of_getElem? (i := 28) rfl)) (hw _ (List.mem_of_getElem? (i := 27) rfl)) (hw _ (List.mem_of_getElem? (i := 2) rfl)) (hw _ (List.mem_of_getElem? (i := 29) rfl)) (by decide) e3 rfl (by rw [hml]; rfl) pd_3 rfl rfl (by show 2 * 0 + _ ≤ _; exact Nat.le_of_eq rfl) (hb hby at_18) (by decide) (by decide) (by decide) (by decide)
  replace X4 := own_flat X4
  refine own_st st4 ?_
  show own_Go p e below _ (T4.setTop (mkF m 21 #[.val (.int p0), .val (.int p1), .val (.int p2), .val (.ref b1), .val (.int (own_m_0 p1)), .unset, .unset, .unset, .unset, .unset] [(.int (own_e_0 p1))]))
  refine own_st (fun _ k => XS.istore X4.here hx rfl (hb hby at_21) rfl (l' := #[.val (.int p0), .val (.int p1), .val (.int p2), .val (.ref b1), .val (.int (own_m_0 p1)), .val (.int (own_e_0 p1)), .unset, .unset, .unset, .unset]) rfl k) ?_
  show own_Go p e below _ (T4.setTop (mkF m 23 #[.val (.int p0), .val (.int p1), .val (.int p2), .val (.ref b1), .val (.int (own_m_0 p1)), .val (.int (own_e_0 p1)), .unset, .unset, .unset, .unset] []))
  refine own_st (fun _ k => XS.iload X4.here hx rfl (hb hby at_23) rfl k) ?_
  show own_Go p e below _ (T4.setTop (mkF m 25 #[.val (.int p0), .val (.int p1), .val (.int p2), .val (.ref b1), .val (.int (own_m_0 p1)), .val (.int (own_e_0 p1)), .unset, .unset, .unset, .unset] [(.int (own_e_0 p1))]))
  refine own_st (fun _ k => XS.iload X4.here hx rfl (hb hby at_25) rfl k) ?_
  show own_Go p e below _ (T4.setTop (mkF m 27 #[.val (.int p0), .val (.int p1), .val (.int p2), .val (.ref b1), .val (.int (own_m_0 p1)), .val (.int (own_e_0 p1)), .unset, .unset, .unset, .unset] [(.int (own_m_0 p1)), (.int (own_e_0 p1))]))
  by_cases hc27 : (own_m_0 p1) = (0 : Int32)
  · refine own_st (fun _ k => XS.ifYes X4.here hx rfl (pc0 := 27) (pc' := 36) rfl (hb hby at_27) rfl ((own_i0 _ _).trans (own_yes (hc27 : (own_m_0 p1) = (0 : Int32)))) (by decide) (by decide) k) ?_
    show own_Go p e below _ (T4.setTop (mkF m 36 #[.val (.int p0), .val (.int p1), .val (.int p2), .val (.ref b1), .val (.int (own_m_0 p1)), .val (.int (own_e_0 p1)), .unset, .unset, .unset, .unset] [(.int (own_e_0 p1))]))
    refine own_st (fun _ k => XS.iconst X4.here hx rfl (hb hby at_36) k) ?_
    show own_Go p e below _ (T4.setTop (mkF m 37 #[.val (.int p0), .val (.int p1), .val (.int p2), .val (.ref b1), .val (.int (own_m_0 p1)), .val (.int (own_e_0 p1)), .unset, .unset, .unset, .unset] [(.int (0 : Int32)), (.int (own_e_0 p1))]))
    refine own_st (fun _ k => XS.ior X4.here hx rfl (hb hby at_37) rfl k) ?_
    show own_Go p e below _ (T4.setTop (mkF m 38 #[.val (.int p0), .val (.int p1), .val (.int p2), .val (.ref b1), .val (.int (own_m_0 p1)), .val (.int (own_e_0 p1)), .unset, .unset, .unset, .unset] [(.int ((own_e_0 p1) ||| (0 : Int32)))]))
    refine own_st (fun _ k => XS.iloadN X4.here hx rfl (hb hby at_38) rfl k) ?_
    show own_Go p e below _ (T4.setTop (mkF m 39 #[.val (.int p0), .val (.int p1), .val (.int p2), .val (.ref b1), .val (.int (own_m_0 p1)), .val (.int (own_e_0 p1)), .unset, .unset, .unset, .unset] [(.int p1), (.int ((own_e_0 p1) ||| (0 : Int32)))]))
    refine own_st (fun _ k => XS.icmpNo X4.here hx rfl (hb hby at_39) rfl ((own_i2 _ _ _).trans (own_nyes ((own_k0 p1 hc27) : ((own_e_0 p1) ||| (0 : Int32)) = p1))) k) ?_
    show own_Go p e below _ (T4.setTop (mkF m 42 #[.val (.int p0), .val (.int p1), .val (.int p2), .val (.ref b1), .val (.int (own_m_0 p1)), .val (.int (own_e_0 p1)), .unset, .unset, .unset, .unset] []))
    refine own_st (fun _ k => XS.iconst X4.here hx rfl (hb hby at_42) k) ?_
    show own_Go p e below _ (T4.setTop (mkF m 43 #[.val (.int p0), .val (.int p1), .val (.int p2), .val (.ref b1), .val (.int (own_m_0 p1)), .val (.int (own_e_0 p1)), .unset, .unset, .unset, .unset] [(.int (1 : Int32))]))
    refine own_st (fun _ k => XS.goto X4.here hx rfl (pc0 := 43) (pc' := 47) rfl (hb hby at_43) (by decide) (by decide) k) ?_
    show own_Go p e below _ (T4.setTop (mkF m 47 #[.val (.int p0), .val (.int p1), .val (.int p2), .val (.ref b1), .val (.int (own_m_0 p1)), .val (.int (own_e_0 p1)), .unset, .unset, .unset, .unset] [(.int (1 : Int32))]))
    refine own_st (fun _ k => XS.istore X4.here hx rfl (hb hby at_47) rfl (l' := #[.val (.int p0), .val (.int p1), .val (.int p2), .val (.ref b1), .val (.int (own_m_0 p1)), .val (.int (own_e_0 p1)), .val (.int (1 : Int32)), .unset, .unset, .unset]) rfl k) ?_
    show own_Go p e below _ (T4.setTop (mkF m 49 #[.val (.int p0), .val (.int p1), .val (.int p2), .val (.ref b1), .val (.int (own_m_0 p1)), .val (.int (own_e_0 p1)), .val (.int (1 : Int32)), .unset, .unset, .unset] []))
    refine own_st (fun _ k => XS.iloadN X4.here hx rfl (hb hby at_49) rfl k) ?_
    show own_Go p e below _ (T4.setTop (mkF m 50 #[.val (.int p0), .val (.int p1), .val (.int p2), .val (.ref b1), .val (.int (own_m_0 p1)), .val (.int (own_e_0 p1)), .val (.int (1 : Int32)), .unset, .unset, .unset] [(.int p1)]))
    refine own_st (fun _ k => XS.sipush X4.here hx rfl (hb hby at_50) k) ?_
    show own_Go p e below _ (T4.setTop (mkF m 53 #[.val (.int p0), .val (.int p1), .val (.int p2), .val (.ref b1), .val (.int (own_m_0 p1)), .val (.int (own_e_0 p1)), .val (.int (1 : Int32)), .unset, .unset, .unset] [(.int (255 : Int32)), (.int p1)]))
    refine own_st (fun _ k => XS.iand X4.here hx rfl (hb hby at_53) rfl k) ?_
    show own_Go p e below _ (T4.setTop (mkF m 54 #[.val (.int p0), .val (.int p1), .val (.int p2), .val (.ref b1), .val (.int (own_m_0 p1)), .val (.int (own_e_0 p1)), .val (.int (1 : Int32)), .unset, .unset, .unset] [(.int (p1 &&& (255 : Int32)))]))
    refine own_st (fun _ k => XS.istore X4.here hx rfl (hb hby at_54) rfl (l' := #[.val (.int p0), .val (.int p1), .val (.int p2), .val (.ref b1), .val (.int (own_m_0 p1)), .val (.int (own_e_0 p1)), .val (.int (1 : Int32)), .val (.int (p1 &&& (255 : Int32))), .unset, .unset]) rfl k) ?_
    show own_Go p e below _ (T4.setTop (mkF m 56 #[.val (.int p0), .val (.int p1), .val (.int p2), .val (.ref b1), .val (.int (own_m_0 p1)), .val (.int (own_e_0 p1)), .val (.int (1 : Int32)), .val (.int (p1 &&& (255 : Int32))), .unset, .unset] []))
    obtain ⟨T5, h5, X5, e5, E5, A5, D5, -, st5⟩ := newO X4 hx hZ hown (hw _ (List.mem_of_getElem? (i := 0) rfl)) (hw _ (List.mem_of_getElem? (i := 1) rfl)) (hw _ (List.mem_of_getElem? (i := 2) rfl)) e4 (g := (mkF m 56 #[.val (.int p0), .val (.int p1), .val (.int p2), .val (.ref b1), .val (.int (own_m_0 p1)), .val (.int (own_e_0 p1)), .val (.int (1 : Int32)), .val (.int (p1 &&& (255 : Int32))), .unset, .unset] [])) rfl (hb hby at_56) (by decide) (by decide)
    refine own_st st5 ?_
    obtain ⟨b5, g5⟩ : ∃ z, z = h2.size := ⟨_, rfl⟩
    rw [← g5] at A5 D5 ⊢
    have g_b5 : n0 ≤ b5 := Nat.le_trans Z0 (Nat.le_of_eq g5.symm)
    have ne_b1_b5 : b1 ≠ b5 := Nat.ne_of_lt (Nat.lt_of_lt_of_le A1.lt (Nat.le_of_eq g5.symm))
    have ne_b5_b1 : b5 ≠ b1 := Ne.symm ne_b1_b5
    replace A1 := A1.ext E5
    replace Fq2_0 := Fq2_0.ext E5
    replace Fq2_1 := Fq2_1.ext E5
    replace Fq2_2 := Fq2_2.ext E5
    replace Z0 := Nat.le_trans Z0 E5.1
    have F_checksum_b5 : Fld Z h5 b5 "com/example/rootward/rootward/log/LogFormat$FrameHeader" "checksum" "I" (.int (0 : Int32)) := D5 (Or.inr (hw _ (List.mem_of_getElem? (i := 15) rfl))) (ty := .int) (by decide)
    have F_type_b5 : Fld Z h5 b5 "com/example/rootward/rootward/log/LogFormat$FrameHeader" "type" "I" (.int (0 : Int32)) := D5 (Or.inr (hw _ (List.mem_of_getElem? (i := 17) rfl))) (ty := .int) (by decide)
    have F_length_b5 : Fld Z h5 b5 "com/example/rootward/rootward/log/LogFormat$FrameHeader" "length" "I" (.int (0 : Int32)) := D5 (Or.inr (hw _ (List.mem_of_getElem? (i := 19) rfl))) (ty := .int) (by decide)
    show own_Go p e below _ (T5.setTop (mkF m 59 #[.val (.int p0), .val (.int p1), .val (.int p2), .val (.ref b1), .val (.int (own_m_0 p1)), .val (.int (own_e_0 p1)), .val (.int (1 : Int32)), .val (.int (p1 &&& (255 : Int32))), .unset, .unset] [(.ref b5)]))
    refine own_st (fun _ k => XS.dup X5.here hx rfl (hb hby at_59) rfl rfl k) ?_
    show own_Go p e below _ (T5.setTop (mkF m 60 #[.val (.int p0), .val (.int p1), .val (.int p2), .val (.ref b1), .val (.int (own_m_0 p1)), .val (.int (own_e_0 p1)), .val (.int (1 : Int32)), .val (.int (p1 &&& (255 : Int32))), .unset, .unset] [(.ref b5), (.ref b5)]))
    refine own_st (fun _ k => XS.iloadN X5.here hx rfl (hb hby at_60) rfl k) ?_
    show own_Go p e below _ (T5.setTop (mkF m 61 #[.val (.int p0), .val (.int p1), .val (.int p2), .val (.ref b1), .val (.int (own_m_0 p1)), .val (.int (own_e_0 p1)), .val (.int (1 : Int32)), .val (.int (p1 &&& (255 : Int32))), .unset, .unset] [(.int p0), (.ref b5), (.ref b5)]))
    refine own_st (fun _ k => XS.iload X5.here hx rfl (hb hby at_61) rfl k) ?_
    show own_Go p e below _ (T5.setTop (mkF m 63 #[.val (.int p0), .val (.int p1), .val (.int p2), .val (.ref b1), .val (.int (own_m_0 p1)), .val (.int (own_e_0 p1)), .val (.int (1 : Int32)), .val (.int (p1 &&& (255 : Int32))), .unset, .unset] [(.int (p1 &&& (255 : Int32))), (.int p0), (.ref b5), (.ref b5)]))
    refine own_st (fun _ k => XS.iloadN X5.here hx rfl (hb hby at_63) rfl k) ?_
    show own_Go p e below _ (T5.setTop (mkF m 64 #[.val (.int p0), .val (.int p1), .val (.int p2), .val (.ref b1), .val (.int (own_m_0 p1)), .val (.int (own_e_0 p1)), .val (.int (1 : Int32)), .val (.int (p1 &&& (255 : Int32))), .unset, .unset] [(.int p2), (.int (p1 &&& (255 : Int32))), (.int p0), (.ref b5), (.ref b5)]))
    obtain ⟨_, T6, L6, X6, hQ6, st6⟩ := own_callI X5 hx hZ (y := (⟨"com/example/rootward/rootward/log/LogFormat$FrameHeader", "<init>", "(III)V"⟩ : MethodName)) (a := b5) (argsL := [(.int p0), (.int (p1 &&& (255 : Int32))), (.int p2)]) (rest := [(.ref b5)]) (W := 1) (g := (mkF m 64 #[.val (.int p0), .val (.int p1), .val (.int p2), .val (.ref b1), .val (.int (own_m_0 p1)), .val (.int (own_e_0 p1)), .val (.int (1 : Int32)), .val (.int (p1 &&& (255 : Int32))), .unset, .unset] [(.int p2), (.int (p1 &&& (255 : Int32))), (.int p0), (.ref b5), (.ref b5)])) (rm1 l Z tA hw b5 p0 (p1 &&& (255 : Int32)) p2 h5 n0 g_b5 A5 F_checksum_b5 F_type_b5 F_length_b5) rfl hown (hw _ (List.mem_of_getElem? (i := 3) rfl)) (hw _ (List.mem_of_getElem? (i := 4) rfl)) (hw _ (List.mem_of_getElem? (i := 2) rfl)) (hw _ (List.mem_of_getElem? (i := 5) rfl)) (by decide) e5 rfl (by rw [hml]; rfl) pd_0 rfl rfl (by show 2 * 0 + _ ≤ _; exact Nat.le_of_eq rfl) (hb hby at_64) (by decide) (by decide) (by decide) (by decide)
    obtain ⟨h6, e6⟩ : ∃ z, T6.heap = z := ⟨_, rfl⟩
    rw [e6] at hQ6
    obtain ⟨rfl, Nq6, Kq6, Fq6_0, Fq6_1, Fq6_2⟩ := hQ6
    replace A1 := A1.keep Kq6
    replace Fq2_0 := Fq2_0.keep Kq6 (ninS ne_b1_b5 (nin0))
    replace Fq2_1 := Fq2_1.keep Kq6 (ninS ne_b1_b5 (nin0))
    replace Fq2_2 := Fq2_2.keep Kq6 (ninS ne_b1_b5 (nin0))
    replace A5 := A5.keep Kq6
    replace Z0 := Nat.le_trans Z0 Kq6.1
    replace N0 := Fr.app N0 Nq6
    refine own_st st6 ?_
    show own_Go p e below _ (T6.setTop (mkF m 67 #[.val (.int p0), .val (.int p1), .val (.int p2), .val (.ref b1), .val (.int (own_m_0 p1)), .val (.int (own_e_0 p1)), .val (.int (1 : Int32)), .val (.int (p1 &&& (255 : Int32))), .unset, .unset] [(.ref b5)]))
    refine own_st (fun _ k => XS.astore X6.here hx rfl (hb hby at_67) rfl rfl (l' := #[.val (.int p0), .val (.int p1), .val (.int p2), .val (.ref b1), .val (.int (own_m_0 p1)), .val (.int (own_e_0 p1)), .val (.int (1 : Int32)), .val (.int (p1 &&& (255 : Int32))), .val (.ref b5), .unset]) rfl k) ?_
    show own_Go p e below _ (T6.setTop (mkF m 69 #[.val (.int p0), .val (.int p1), .val (.int p2), .val (.ref b1), .val (.int (own_m_0 p1)), .val (.int (own_e_0 p1)), .val (.int (1 : Int32)), .val (.int (p1 &&& (255 : Int32))), .val (.ref b5), .unset] []))
    refine own_st (fun _ k => XS.aload X6.here hx rfl (hb hby at_69) rfl rfl k) ?_
    show own_Go p e below _ (T6.setTop (mkF m 71 #[.val (.int p0), .val (.int p1), .val (.int p2), .val (.ref b1), .val (.int (own_m_0 p1)), .val (.int (own_e_0 p1)), .val (.int (1 : Int32)), .val (.int (p1 &&& (255 : Int32))), .val (.ref b5), .unset] [(.ref b5)]))
    obtain ⟨_, T7, _, X7, ⟨rfl, rfl, e7⟩, st7⟩ := own_callV X6 hx hZ (y := (⟨"com/example/rootward/rootward/log/LogFormat$FrameHeader", "hasMoreFragments", "()Z"⟩ : MethodName)) (a := b5) (argsL := []) (rest := []) (W := 0) (g := (mkF m 71 #[.val (.int p0), .val (.int p1), .val (.int p2), .val (.ref b1), .val (.int (own_m_0 p1)), .val (.int (own_e_0 p1)), .val (.int (1 : Int32)), .val (.int (p1 &&& (255 : Int32))), .val (.ref b5), .unset] [(.ref b5)])) (rm4 l Z tA hw b5 (p1 &&& (255 : Int32)) h6 Fq6_1) A5 hown (hw _ (List.mem_of_getElem? (i := 20) rfl)) (hw _ (List.mem_of_getElem? (i := 21) rfl)) (hw _ (List.mem_of_getElem? (i := 23) rfl)) (hw _ (List.mem_of_getElem? (i := 22) rfl)) (hw _ (List.mem_of_getElem? (i := 2) rfl)) (hw _ (List.mem_of_getElem? (i := 24) rfl)) (by decide) e6 rfl (by rw [hml]; rfl) pd_2 rfl rfl (by show 2 * 0 + _ ≤ _; exact Nat.le_of_eq rfl) (hb hby at_71) (by decide) (by decide) (by decide) (by decide)
    replace X7 := own_flat X7
    refine own_st st7 ?_
    show own_Go p e below _ (T7.setTop (mkF m 74 #[.val (.int p0), .val (.int p1), .val (.int p2), .val (.ref b1), .val (.int (own_m_0 p1)), .val (.int (own_e_0 p1)), .val (.int (1 : Int32)), .val (.int (p1 &&& (255 : Int32))), .val (.ref b5), .unset] [(.int (own_m_0 (p1 &&& (255 : Int32))))]))
    refine own_st (fun _ k => XS.iload X7.here hx rfl (hb hby at_74) rfl k) ?_
    show own_Go p e below _ (T7.setTop (mkF m 76 #[.val (.int p0), .val (.int p1), .val (.int p2), .val (.ref b1), .val (.int (own_m_0 p1)), .val (.int (own_e_0 p1)), .val (.int (1 : Int32)), .val (.int (p1 &&& (255 : Int32))), .val (.ref b5), .unset] [(.int (p1 &&& (255 : Int32))), (.int (own_m_0 (p1 &&& (255 : Int32))))]))
    refine own_st (fun _ k => XS.sipush X7.here hx rfl (hb hby at_76) k) ?_
    show own_Go p e below _ (T7.setTop (mkF m 79 #[.val (.int p0), .val (.int p1), .val (.int p2), .val (.ref b1), .val (.int (own_m_0 p1)), .val (.int (own_e_0 p1)), .val (.int (1 : Int32)), .val (.int (p1 &&& (255 : Int32))), .val (.ref b5), .unset] [(.int (128 : Int32)), (.int (p1 &&& (255 : Int32))), (.int (own_m_0 (p1 &&& (255 : Int32))))]))
    by_cases hc79 : (p1 &&& (255 : Int32)) < (128 : Int32)
    · refine own_st (fun _ k => XS.icmpYes X7.here hx rfl (pc0 := 79) (pc' := 86) rfl (hb hby at_79) rfl ((own_i2 _ _ _).trans (own_yes (hc79 : (p1 &&& (255 : Int32)) < (128 : Int32)))) (by decide) (by decide) k) ?_
      show own_Go p e below _ (T7.setTop (mkF m 86 #[.val (.int p0), .val (.int p1), .val (.int p2), .val (.ref b1), .val (.int (own_m_0 p1)), .val (.int (own_e_0 p1)), .val (.int (1 : Int32)), .val (.int (p1 &&& (255 : Int32))), .val (.ref b5), .unset] [(.int (own_m_0 (p1 &&& (255 : Int32))))]))
      refine own_st (fun _ k => XS.iconst X7.here hx rfl (hb hby at_86) k) ?_
      show own_Go p e below _ (T7.setTop (mkF m 87 #[.val (.int p0), .val (.int p1), .val (.int p2), .val (.ref b1), .val (.int (own_m_0 p1)), .val (.int (own_e_0 p1)), .val (.int (1 : Int32)), .val (.int (p1 &&& (255 : Int32))), .val (.ref b5), .unset] [(.int (0 : Int32)), (.int (own_m_0 (p1 &&& (255 : Int32))))]))
      refine own_st (fun _ k => XS.icmpNo X7.here hx rfl (hb hby at_87) rfl ((own_i2 _ _ _).trans (own_nyes ((own_q0 p1 hc79) : (own_m_0 (p1 &&& (255 : Int32))) = (0 : Int32)))) k) ?_
      show own_Go p e below _ (T7.setTop (mkF m 90 #[.val (.int p0), .val (.int p1), .val (.int p2), .val (.ref b1), .val (.int (own_m_0 p1)), .val (.int (own_e_0 p1)), .val (.int (1 : Int32)), .val (.int (p1 &&& (255 : Int32))), .val (.ref b5), .unset] []))
      refine own_st (fun _ k => XS.iconst X7.here hx rfl (hb hby at_90) k) ?_
      show own_Go p e below _ (T7.setTop (mkF m 91 #[.val (.int p0), .val (.int p1), .val (.int p2), .val (.ref b1), .val (.int (own_m_0 p1)), .val (.int (own_e_0 p1)), .val (.int (1 : Int32)), .val (.int (p1 &&& (255 : Int32))), .val (.ref b5), .unset] [(.int (1 : Int32))]))
      refine own_st (fun _ k => XS.goto X7.here hx rfl (pc0 := 91) (pc' := 95) rfl (hb hby at_91) (by decide) (by decide) k) ?_
      show own_Go p e below _ (T7.setTop (mkF m 95 #[.val (.int p0), .val (.int p1), .val (.int p2), .val (.ref b1), .val (.int (own_m_0 p1)), .val (.int (own_e_0 p1)), .val (.int (1 : Int32)), .val (.int (p1 &&& (255 : Int32))), .val (.ref b5), .unset] [(.int (1 : Int32))]))
      refine own_st (fun _ k => XS.istore X7.here hx rfl (hb hby at_95) rfl (l' := #[.val (.int p0), .val (.int p1), .val (.int p2), .val (.ref b1), .val (.int (own_m_0 p1)), .val (.int (own_e_0 p1)), .val (.int (1 : Int32)), .val (.int (p1 &&& (255 : Int32))), .val (.ref b5), .val (.int (1 : Int32))]) rfl k) ?_
      show own_Go p e below _ (T7.setTop (mkF m 97 #[.val (.int p0), .val (.int p1), .val (.int p2), .val (.ref b1), .val (.int (own_m_0 p1)), .val (.int (own_e_0 p1)), .val (.int (1 : Int32)), .val (.int (p1 &&& (255 : Int32))), .val (.ref b5), .val (.int (1 : Int32))] []))
      refine own_st (fun _ k => XS.iload X7.here hx rfl (hb hby at_97) rfl k) ?_
      show own_Go p e below _ (T7.setTop (mkF m 99 #[.val (.int p0), .val (.int p1), .val (.int p2), .val (.ref b1), .val (.int (own_m_0 p1)), .val (.int (own_e_0 p1)), .val (.int (1 : Int32)), .val (.int (p1 &&& (255 : Int32))), .val (.ref b5), .val (.int (1 : Int32))] [(.int (1 : Int32))]))
      refine own_st (fun _ k => XS.ifNo X7.here hx rfl (hb hby at_99) rfl ((own_i0 _ _).trans (own_no ((by decide : ¬ ((1 : Int32) = (0 : Int32))) : ¬ ((1 : Int32) = (0 : Int32))))) k) ?_
      show own_Go p e below _ (T7.setTop (mkF m 102 #[.val (.int p0), .val (.int p1), .val (.int p2), .val (.ref b1), .val (.int (own_m_0 p1)), .val (.int (own_e_0 p1)), .val (.int (1 : Int32)), .val (.int (p1 &&& (255 : Int32))), .val (.ref b5), .val (.int (1 : Int32))] []))
      refine own_st (fun _ k => XS.iload X7.here hx rfl (hb hby at_102) rfl k) ?_
      show own_Go p e below _ (T7.setTop (mkF m 104 #[.val (.int p0), .val (.int p1), .val (.int p2), .val (.ref b1), .val (.int (own_m_0 p1)), .val (.int (own_e_0 p1)), .val (.int (1 : Int32)), .val (.int (p1 &&& (255 : Int32))), .val (.ref b5), .val (.int (1 : Int32))] [(.int (1 : Int32))]))
      refine own_st (fun _ k => XS.ifNo X7.here hx rfl (hb hby at_104) rfl ((own_i0 _ _).trans (own_no ((by decide : ¬ ((1 : Int32) = (0 : Int32))) : ¬ ((1 : Int32) = (0 : Int32))))) k) ?_
      show own_Go p e below _ (T7.setTop (mkF m 107 #[.val (.int p0), .val (.int p1), .val (.int p2), .val (.ref b1), .val (.int (own_m_0 p1)), .val (.int (own_e_0 p1)), .val (.int (1 : Int32)), .val (.int (p1 &&& (255 : Int32))), .val (.ref b5), .val (.int (1 : Int32))] []))
      refine own_st (fun _ k => XS.iconst X7.here hx rfl (hb hby at_107) k) ?_
      show own_Go p e below _ (T7.setTop (mkF m 108 #[.val (.int p0), .val (.int p1), .val (.int p2), .val (.ref b1), .val (.int (own_m_0 p1)), .val (.int (own_e_0 p1)), .val (.int (1 : Int32)), .val (.int (p1 &&& (255 : Int32))), .val (.ref b5), .val (.int (1 : Int32))] [(.int (1 : Int32))]))
      refine own_st (fun _ k => XS.goto X7.here hx rfl (pc0 := 108) (pc' := 112) rfl (hb hby at_108) (by decide) (by decide) k) ?_
      show own_Go p e below _ (T7.setTop (mkF m 112 #[.val (.int p0), .val (.int p1), .val (.int p2), .val (.ref b1), .val (.int (own_m_0 p1)), .val (.int (own_e_0 p1)), .val (.int (1 : Int32)), .val (.int (p1 &&& (255 : Int32))), .val (.ref b5), .val (.int (1 : Int32))] [(.int (1 : Int32))]))
      exact own_retZ X7 hx hlk hret rfl (hb hby at_112) ⟨rfl, N0⟩ (by decide) (by decide)
    · refine own_st (fun _ k => XS.icmpNo X7.here hx rfl (hb hby at_79) rfl ((own_i2 _ _ _).trans (own_no (hc79 : ¬ ((p1 &&& (255 : Int32)) < (128 : Int32))))) k) ?_
      show own_Go p e below _ (T7.setTop (mkF m 82 #[.val (.int p0), .val (.int p1), .val (.int p2), .val (.ref b1), .val (.int (own_m_0 p1)), .val (.int (own_e_0 p1)), .val (.int (1 : Int32)), .val (.int (p1 &&& (255 : Int32))), .val (.ref b5), .unset] [(.int (own_m_0 (p1 &&& (255 : Int32))))]))
      refine own_st (fun _ k => XS.iconst X7.here hx rfl (hb hby at_82) k) ?_
      show own_Go p e below _ (T7.setTop (mkF m 83 #[.val (.int p0), .val (.int p1), .val (.int p2), .val (.ref b1), .val (.int (own_m_0 p1)), .val (.int (own_e_0 p1)), .val (.int (1 : Int32)), .val (.int (p1 &&& (255 : Int32))), .val (.ref b5), .unset] [(.int (1 : Int32)), (.int (own_m_0 (p1 &&& (255 : Int32))))]))
      refine own_st (fun _ k => XS.goto X7.here hx rfl (pc0 := 83) (pc' := 87) rfl (hb hby at_83) (by decide) (by decide) k) ?_
      show own_Go p e below _ (T7.setTop (mkF m 87 #[.val (.int p0), .val (.int p1), .val (.int p2), .val (.ref b1), .val (.int (own_m_0 p1)), .val (.int (own_e_0 p1)), .val (.int (1 : Int32)), .val (.int (p1 &&& (255 : Int32))), .val (.ref b5), .unset] [(.int (1 : Int32)), (.int (own_m_0 (p1 &&& (255 : Int32))))]))
      refine own_st (fun _ k => XS.icmpNo X7.here hx rfl (hb hby at_87) rfl ((own_i2 _ _ _).trans (own_nyes ((own_q1 p1 hc79) : (own_m_0 (p1 &&& (255 : Int32))) = (1 : Int32)))) k) ?_
      show own_Go p e below _ (T7.setTop (mkF m 90 #[.val (.int p0), .val (.int p1), .val (.int p2), .val (.ref b1), .val (.int (own_m_0 p1)), .val (.int (own_e_0 p1)), .val (.int (1 : Int32)), .val (.int (p1 &&& (255 : Int32))), .val (.ref b5), .unset] []))
      refine own_st (fun _ k => XS.iconst X7.here hx rfl (hb hby at_90) k) ?_
      show own_Go p e below _ (T7.setTop (mkF m 91 #[.val (.int p0), .val (.int p1), .val (.int p2), .val (.ref b1), .val (.int (own_m_0 p1)), .val (.int (own_e_0 p1)), .val (.int (1 : Int32)), .val (.int (p1 &&& (255 : Int32))), .val (.ref b5), .unset] [(.int (1 : Int32))]))
      refine own_st (fun _ k => XS.goto X7.here hx rfl (pc0 := 91) (pc' := 95) rfl (hb hby at_91) (by decide) (by decide) k) ?_
      show own_Go p e below _ (T7.setTop (mkF m 95 #[.val (.int p0), .val (.int p1), .val (.int p2), .val (.ref b1), .val (.int (own_m_0 p1)), .val (.int (own_e_0 p1)), .val (.int (1 : Int32)), .val (.int (p1 &&& (255 : Int32))), .val (.ref b5), .unset] [(.int (1 : Int32))]))
      refine own_st (fun _ k => XS.istore X7.here hx rfl (hb hby at_95) rfl (l' := #[.val (.int p0), .val (.int p1), .val (.int p2), .val (.ref b1), .val (.int (own_m_0 p1)), .val (.int (own_e_0 p1)), .val (.int (1 : Int32)), .val (.int (p1 &&& (255 : Int32))), .val (.ref b5), .val (.int (1 : Int32))]) rfl k) ?_
      show own_Go p e below _ (T7.setTop (mkF m 97 #[.val (.int p0), .val (.int p1), .val (.int p2), .val (.ref b1), .val (.int (own_m_0 p1)), .val (.int (own_e_0 p1)), .val (.int (1 : Int32)), .val (.int (p1 &&& (255 : Int32))), .val (.ref b5), .val (.int (1 : Int32))] []))
      refine own_st (fun _ k => XS.iload X7.here hx rfl (hb hby at_97) rfl k) ?_
      show own_Go p e below _ (T7.setTop (mkF m 99 #[.val (.int p0), .val (.int p1), .val (.int p2), .val (.ref b1), .val (.int (own_m_0 p1)), .val (.int (own_e_0 p1)), .val (.int (1 : Int32)), .val (.int (p1 &&& (255 : Int32))), .val (.ref b5), .val (.int (1 : Int32))] [(.int (1 : Int32))]))
      refine own_st (fun _ k => XS.ifNo X7.here hx rfl (hb hby at_99) rfl ((own_i0 _ _).trans (own_no ((by decide : ¬ ((1 : Int32) = (0 : Int32))) : ¬ ((1 : Int32) = (0 : Int32))))) k) ?_
      show own_Go p e below _ (T7.setTop (mkF m 102 #[.val (.int p0), .val (.int p1), .val (.int p2), .val (.ref b1), .val (.int (own_m_0 p1)), .val (.int (own_e_0 p1)), .val (.int (1 : Int32)), .val (.int (p1 &&& (255 : Int32))), .val (.ref b5), .val (.int (1 : Int32))] []))
      refine own_st (fun _ k => XS.iload X7.here hx rfl (hb hby at_102) rfl k) ?_
      show own_Go p e below _ (T7.setTop (mkF m 104 #[.val (.int p0), .val (.int p1), .val (.int p2), .val (.ref b1), .val (.int (own_m_0 p1)), .val (.int (own_e_0 p1)), .val (.int (1 : Int32)), .val (.int (p1 &&& (255 : Int32))), .val (.ref b5), .val (.int (1 : Int32))] [(.int (1 : Int32))]))
      refine own_st (fun _ k => XS.ifNo X7.here hx rfl (hb hby at_104) rfl ((own_i0 _ _).trans (own_no ((by decide : ¬ ((1 : Int32) = (0 : Int32))) : ¬ ((1 : Int32) = (0 : Int32))))) k) ?_
      show own_Go p e below _ (T7.setTop (mkF m 107 #[.val (.int p0), .val (.int p1), .val (.int p2), .val (.ref b1), .val (.int (own_m_0 p1)), .val (.int (own_e_0 p1)), .val (.int (1 : Int32)), .val (.int (p1 &&& (255 : Int32))), .val (.ref b5), .val (.int (1 : Int32))] []))
      refine own_st (fun _ k => XS.iconst X7.here hx rfl (hb hby at_107) k) ?_
      show own_Go p e below _ (T7.setTop (mkF m 108 #[.val (.int p0), .val (.int p1), .val (.int p2), .val (.ref b1), .val (.int (own_m_0 p1)), .val (.int (own_e_0 p1)), .val (.int (1 : Int32)), .val (.int (p1 &&& (255 : Int32))), .val (.ref b5), .val (.int (1 : Int32))] [(.int (1 : Int32))]))
      refine own_st (fun _ k => XS.goto X7.here hx rfl (pc0 := 108) (pc' := 112) rfl (hb hby at_108) (by decide) (by decide) k) ?_
      show own_Go p e below _ (T7.setTop (mkF m 112 #[.val (.int p0), .val (.int p1), .val (.int p2), .val (.ref b1), .val (.int (own_m_0 p1)), .val (.int (own_e_0 p1)), .val (.int (1 : Int32)), .val (.int (p1 &&& (255 : Int32))), .val (.ref b5), .val (.int (1 : Int32))] [(.int (1 : Int32))]))
      exact own_retZ X7 hx hlk hret rfl (hb hby at_112) ⟨rfl, N0⟩ (by decide) (by decide)
  · refine own_st (fun _ k => XS.ifNo X4.here hx rfl (hb hby at_27) rfl ((own_i0 _ _).trans (own_no (hc27 : ¬ ((own_m_0 p1) = (0 : Int32))))) k) ?_
    show own_Go p e below _ (T4.setTop (mkF m 30 #[.val (.int p0), .val (.int p1), .val (.int p2), .val (.ref b1), .val (.int (own_m_0 p1)), .val (.int (own_e_0 p1)), .unset, .unset, .unset, .unset] [(.int (own_e_0 p1))]))
    refine own_st (fun _ k => XS.sipush X4.here hx rfl (hb hby at_30) k) ?_
    show own_Go p e below _ (T4.setTop (mkF m 33 #[.val (.int p0), .val (.int p1), .val (.int p2), .val (.ref b1), .val (.int (own_m_0 p1)), .val (.int (own_e_0 p1)), .unset, .unset, .unset, .unset] [(.int (128 : Int32)), (.int (own_e_0 p1))]))
    refine own_st (fun _ k => XS.goto X4.here hx rfl (pc0 := 33) (pc' := 37) rfl (hb hby at_33) (by decide) (by decide) k) ?_
    show own_Go p e below _ (T4.setTop (mkF m 37 #[.val (.int p0), .val (.int p1), .val (.int p2), .val (.ref b1), .val (.int (own_m_0 p1)), .val (.int (own_e_0 p1)), .unset, .unset, .unset, .unset] [(.int (128 : Int32)), (.int (own_e_0 p1))]))
    refine own_st (fun _ k => XS.ior X4.here hx rfl (hb hby at_37) rfl k) ?_
    show own_Go p e below _ (T4.setTop (mkF m 38 #[.val (.int p0), .val (.int p1), .val (.int p2), .val (.ref b1), .val (.int (own_m_0 p1)), .val (.int (own_e_0 p1)), .unset, .unset, .unset, .unset] [(.int ((own_e_0 p1) ||| (128 : Int32)))]))
    refine own_st (fun _ k => XS.iloadN X4.here hx rfl (hb hby at_38) rfl k) ?_
    show own_Go p e below _ (T4.setTop (mkF m 39 #[.val (.int p0), .val (.int p1), .val (.int p2), .val (.ref b1), .val (.int (own_m_0 p1)), .val (.int (own_e_0 p1)), .unset, .unset, .unset, .unset] [(.int p1), (.int ((own_e_0 p1) ||| (128 : Int32)))]))
    refine own_st (fun _ k => XS.icmpNo X4.here hx rfl (hb hby at_39) rfl ((own_i2 _ _ _).trans (own_nyes ((own_k1 p1 hc27) : ((own_e_0 p1) ||| (128 : Int32)) = p1))) k) ?_
    show own_Go p e below _ (T4.setTop (mkF m 42 #[.val (.int p0), .val (.int p1), .val (.int p2), .val (.ref b1), .val (.int (own_m_0 p1)), .val (.int (own_e_0 p1)), .unset, .unset, .unset, .unset] []))
    refine own_st (fun _ k => XS.iconst X4.here hx rfl (hb hby at_42) k) ?_
    show own_Go p e below _ (T4.setTop (mkF m 43 #[.val (.int p0), .val (.int p1), .val (.int p2), .val (.ref b1), .val (.int (own_m_0 p1)), .val (.int (own_e_0 p1)), .unset, .unset, .unset, .unset] [(.int (1 : Int32))]))
    refine own_st (fun _ k => XS.goto X4.here hx rfl (pc0 := 43) (pc' := 47) rfl (hb hby at_43) (by decide) (by decide) k) ?_
    show own_Go p e below _ (T4.setTop (mkF m 47 #[.val (.int p0), .val (.int p1), .val (.int p2), .val (.ref b1), .val (.int (own_m_0 p1)), .val (.int (own_e_0 p1)), .unset, .unset, .unset, .unset] [(.int (1 : Int32))]))
    refine own_st (fun _ k => XS.istore X4.here hx rfl (hb hby at_47) rfl (l' := #[.val (.int p0), .val (.int p1), .val (.int p2), .val (.ref b1), .val (.int (own_m_0 p1)), .val (.int (own_e_0 p1)), .val (.int (1 : Int32)), .unset, .unset, .unset]) rfl k) ?_
    show own_Go p e below _ (T4.setTop (mkF m 49 #[.val (.int p0), .val (.int p1), .val (.int p2), .val (.ref b1), .val (.int (own_m_0 p1)), .val (.int (own_e_0 p1)), .val (.int (1 : Int32)), .unset, .unset, .unset] []))
    refine own_st (fun _ k => XS.iloadN X4.here hx rfl (hb hby at_49) rfl k) ?_
    show own_Go p e below _ (T4.setTop (mkF m 50 #[.val (.int p0), .val (.int p1), .val (.int p2), .val (.ref b1), .val (.int (own_m_0 p1)), .val (.int (own_e_0 p1)), .val (.int (1 : Int32)), .unset, .unset, .unset] [(.int p1)]))
    refine own_st (fun _ k => XS.sipush X4.here hx rfl (hb hby at_50) k) ?_
    show own_Go p e below _ (T4.setTop (mkF m 53 #[.val (.int p0), .val (.int p1), .val (.int p2), .val (.ref b1), .val (.int (own_m_0 p1)), .val (.int (own_e_0 p1)), .val (.int (1 : Int32)), .unset, .unset, .unset] [(.int (255 : Int32)), (.int p1)]))
    refine own_st (fun _ k => XS.iand X4.here hx rfl (hb hby at_53) rfl k) ?_
    show own_Go p e below _ (T4.setTop (mkF m 54 #[.val (.int p0), .val (.int p1), .val (.int p2), .val (.ref b1), .val (.int (own_m_0 p1)), .val (.int (own_e_0 p1)), .val (.int (1 : Int32)), .unset, .unset, .unset] [(.int (p1 &&& (255 : Int32)))]))
    refine own_st (fun _ k => XS.istore X4.here hx rfl (hb hby at_54) rfl (l' := #[.val (.int p0), .val (.int p1), .val (.int p2), .val (.ref b1), .val (.int (own_m_0 p1)), .val (.int (own_e_0 p1)), .val (.int (1 : Int32)), .val (.int (p1 &&& (255 : Int32))), .unset, .unset]) rfl k) ?_
    show own_Go p e below _ (T4.setTop (mkF m 56 #[.val (.int p0), .val (.int p1), .val (.int p2), .val (.ref b1), .val (.int (own_m_0 p1)), .val (.int (own_e_0 p1)), .val (.int (1 : Int32)), .val (.int (p1 &&& (255 : Int32))), .unset, .unset] []))
    obtain ⟨T8, h8, X8, e8, E8, A8, D8, -, st8⟩ := newO X4 hx hZ hown (hw _ (List.mem_of_getElem? (i := 0) rfl)) (hw _ (List.mem_of_getElem? (i := 1) rfl)) (hw _ (List.mem_of_getElem? (i := 2) rfl)) e4 (g := (mkF m 56 #[.val (.int p0), .val (.int p1), .val (.int p2), .val (.ref b1), .val (.int (own_m_0 p1)), .val (.int (own_e_0 p1)), .val (.int (1 : Int32)), .val (.int (p1 &&& (255 : Int32))), .unset, .unset] [])) rfl (hb hby at_56) (by decide) (by decide)
    refine own_st st8 ?_
    obtain ⟨b8, g8⟩ : ∃ z, z = h2.size := ⟨_, rfl⟩
    rw [← g8] at A8 D8 ⊢
    have g_b8 : n0 ≤ b8 := Nat.le_trans Z0 (Nat.le_of_eq g8.symm)
    have ne_b1_b8 : b1 ≠ b8 := Nat.ne_of_lt (Nat.lt_of_lt_of_le A1.lt (Nat.le_of_eq g8.symm))
    have ne_b8_b1 : b8 ≠ b1 := Ne.symm ne_b1_b8
    replace A1 := A1.ext E8
    replace Fq2_0 := Fq2_0.ext E8
    replace Fq2_1 := Fq2_1.ext E8
    replace Fq2_2 := Fq2_2.ext E8
    replace Z0 := Nat.le_trans Z0 E8.1
    have F_checksum_b8 : Fld Z h8 b8 "com/example/rootward/rootward/log/LogFormat$FrameHeader" "checksum" "I" (.int (0 : Int32)) := D8 (Or.inr (hw _ (List.mem_of_getElem? (i := 15) rfl))) (ty := .int) (by decide)
    have F_type_b8 : Fld Z h8 b8 "com/example/rootward/rootward/log/LogFormat$FrameHeader" "type" "I" (.int (0 : Int32)) := D8 (Or.inr (hw _ (List.mem_of_getElem? (i := 17) rfl))) (ty := .int) (by decide)
    have F_length_b8 : Fld Z h8 b8 "com/example/rootward/rootward/log/LogFormat$FrameHeader" "length" "I" (.int (0 : Int32)) := D8 (Or.inr (hw _ (List.mem_of_getElem? (i := 19) rfl))) (ty := .int) (by decide)
    show own_Go p e below _ (T8.setTop (mkF m 59 #[.val (.int p0), .val (.int p1), .val (.int p2), .val (.ref b1), .val (.int (own_m_0 p1)), .val (.int (own_e_0 p1)), .val (.int (1 : Int32)), .val (.int (p1 &&& (255 : Int32))), .unset, .unset] [(.ref b8)]))
    refine own_st (fun _ k => XS.dup X8.here hx rfl (hb hby at_59) rfl rfl k) ?_
    show own_Go p e below _ (T8.setTop (mkF m 60 #[.val (.int p0), .val (.int p1), .val (.int p2), .val (.ref b1), .val (.int (own_m_0 p1)), .val (.int (own_e_0 p1)), .val (.int (1 : Int32)), .val (.int (p1 &&& (255 : Int32))), .unset, .unset] [(.ref b8), (.ref b8)]))
    refine own_st (fun _ k => XS.iloadN X8.here hx rfl (hb hby at_60) rfl k) ?_
    show own_Go p e below _ (T8.setTop (mkF m 61 #[.val (.int p0), .val (.int p1), .val (.int p2), .val (.ref b1), .val (.int (own_m_0 p1)), .val (.int (own_e_0 p1)), .val (.int (1 : Int32)), .val (.int (p1 &&& (255 : Int32))), .unset, .unset] [(.int p0), (.ref b8), (.ref b8)]))
    refine own_st (fun _ k => XS.iload X8.here hx rfl (hb hby at_61) rfl k) ?_
    show own_Go p e below _ (T8.setTop (mkF m 63 #[.val (.int p0), .val (.int p1), .val (.int p2), .val (.ref b1), .val (.int (own_m_0 p1)), .val (.int (own_e_0 p1)), .val (.int (1 : Int32)), .val (.int (p1 &&& (255 : Int32))), .unset, .unset] [(.int (p1 &&& (255 : Int32))), (.int p0), (.ref b8), (.ref b8)]))
    refine own_st (fun _ k => XS.iloadN X8.here hx rfl (hb hby at_63) rfl k) ?_
    show own_Go p e below _ (T8.setTop (mkF m 64 #[.val (.int p0), .val (.int p1), .val (.int p2), .val (.ref b1), .val (.int (own_m_0 p1)), .val (.int (own_e_0 p1)), .val (.int (1 : Int32)), .val (.int (p1 &&& (255 : Int32))), .unset, .unset] [(.int p2), (.int (p1 &&& (255 : Int32))), (.int p0), (.ref b8), (.ref b8)]))
    obtain ⟨_, T9, L9, X9, hQ9, st9⟩ := own_callI X8 hx hZ (y := (⟨"com/example/rootward/rootward/log/LogFormat$FrameHeader", "<init>", "(III)V"⟩ : MethodName)) (a := b8) (argsL := [(.int p0), (.int (p1 &&& (255 : Int32))), (.int p2)]) (rest := [(.ref b8)]) (W := 1) (g := (mkF m 64 #[.val (.int p0), .val (.int p1), .val (.int p2), .val (.ref b1), .val (.int (own_m_0 p1)), .val (.int (own_e_0 p1)), .val (.int (1 : Int32)), .val (.int (p1 &&& (255 : Int32))), .unset, .unset] [(.int p2), (.int (p1 &&& (255 : Int32))), (.int p0), (.ref b8), (.ref b8)])) (rm1 l Z tA hw b8 p0 (p1 &&& (255 : Int32)) p2 h8 n0 g_b8 A8 F_checksum_b8 F_type_b8 F_length_b8) rfl hown (hw _ (List.mem_of_getElem? (i := 3) rfl)) (hw _ (List.mem_of_getElem? (i := 4) rfl)) (hw _ (List.mem_of_getElem? (i := 2) rfl)) (hw _ (List.mem_of_getElem? (i := 5) rfl)) (by decide) e8 rfl (by rw [hml]; rfl) pd_0 rfl rfl (by show 2 * 0 + _ ≤ _; exact Nat.le_of_eq rfl) (hb hby at_64) (by decide) (by decide) (by decide) (by decide)
    obtain ⟨h9, e9⟩ : ∃ z, T9.heap = z := ⟨_, rfl⟩
    rw [e9] at hQ9
    obtain ⟨rfl, Nq9, Kq9, Fq9_0, Fq9_1, Fq9_2⟩ := hQ9
    replace A1 := A1.keep Kq9
    replace Fq2_0 := Fq2_0.keep Kq9 (ninS ne_b1_b8 (nin0))
    replace Fq2_1 := Fq2_1.keep Kq9 (ninS ne_b1_b8 (nin0))
    replace Fq2_2 := Fq2_2.keep Kq9 (ninS ne_b1_b8 (nin0))
    replace A8 := A8.keep Kq9
    replace Z0 := Nat.le_trans Z0 Kq9.1
    replace N0 := Fr.app N0 Nq9
    refine own_st st9 ?_
    show own_Go p e below _ (T9.setTop (mkF m 67 #[.val (.int p0), .val (.int p1), .val (.int p2), .val (.ref b1), .val (.int (own_m_0 p1)), .val (.int (own_e_0 p1)), .val (.int (1 : Int32)), .val (.int (p1 &&& (255 : Int32))), .unset, .unset] [(.ref b8)]))
    refine own_st (fun _ k => XS.astore X9.here hx rfl (hb hby at_67) rfl rfl (l' := #[.val (.int p0), .val (.int p1), .val (.int p2), .val (.ref b1), .val (.int (own_m_0 p1)), .val (.int (own_e_0 p1)), .val (.int (1 : Int32)), .val (.int (p1 &&& (255 : Int32))), .val (.ref b8), .unset]) rfl k) ?_
    show own_Go p e below _ (T9.setTop (mkF m 69 #[.val (.int p0), .val (.int p1), .val (.int p2), .val (.ref b1), .val (.int (own_m_0 p1)), .val (.int (own_e_0 p1)), .val (.int (1 : Int32)), .val (.int (p1 &&& (255 : Int32))), .val (.ref b8), .unset] []))
    refine own_st (fun _ k => XS.aload X9.here hx rfl (hb hby at_69) rfl rfl k) ?_
    show own_Go p e below _ (T9.setTop (mkF m 71 #[.val (.int p0), .val (.int p1), .val (.int p2), .val (.ref b1), .val (.int (own_m_0 p1)), .val (.int (own_e_0 p1)), .val (.int (1 : Int32)), .val (.int (p1 &&& (255 : Int32))), .val (.ref b8), .unset] [(.ref b8)]))
    obtain ⟨_, T10, _, X10, ⟨rfl, rfl, e10⟩, st10⟩ := own_callV X9 hx hZ (y := (⟨"com/example/rootward/rootward/log/LogFormat$FrameHeader", "hasMoreFragments", "()Z"⟩ : MethodName)) (a := b8) (argsL := []) (rest := []) (W := 0) (g := (mkF m 71 #[.val (.int p0), .val (.int p1), .val (.int p2), .val (.ref b1), .val (.int (own_m_0 p1)), .val (.int (own_e_0 p1)), .val (.int (1 : Int32)), .val (.int (p1 &&& (255 : Int32))), .val (.ref b8), .unset] [(.ref b8)])) (rm4 l Z tA hw b8 (p1 &&& (255 : Int32)) h9 Fq9_1) A8 hown (hw _ (List.mem_of_getElem? (i := 20) rfl)) (hw _ (List.mem_of_getElem? (i := 21) rfl)) (hw _ (List.mem_of_getElem? (i := 23) rfl)) (hw _ (List.mem_of_getElem? (i := 22) rfl)) (hw _ (List.mem_of_getElem? (i := 2) rfl)) (hw _ (List.mem_of_getElem? (i := 24) rfl)) (by decide) e9 rfl (by rw [hml]; rfl) pd_2 rfl rfl (by show 2 * 0 + _ ≤ _; exact Nat.le_of_eq rfl) (hb hby at_71) (by decide) (by decide) (by decide) (by decide)
    replace X10 := own_flat X10
    refine own_st st10 ?_
    show own_Go p e below _ (T10.setTop (mkF m 74 #[.val (.int p0), .val (.int p1), .val (.int p2), .val (.ref b1), .val (.int (own_m_0 p1)), .val (.int (own_e_0 p1)), .val (.int (1 : Int32)), .val (.int (p1 &&& (255 : Int32))), .val (.ref b8), .unset] [(.int (own_m_0 (p1 &&& (255 : Int32))))]))
    refine own_st (fun _ k => XS.iload X10.here hx rfl (hb hby at_74) rfl k) ?_
    show own_Go p e below _ (T10.setTop (mkF m 76 #[.val (.int p0), .val (.int p1), .val (.int p2), .val (.ref b1), .val (.int (own_m_0 p1)), .val (.int (own_e_0 p1)), .val (.int (1 : Int32)), .val (.int (p1 &&& (255 : Int32))), .val (.ref b8), .unset] [(.int (p1 &&& (255 : Int32))), (.int (own_m_0 (p1 &&& (255 : Int32))))]))
    refine own_st (fun _ k => XS.sipush X10.here hx rfl (hb hby at_76) k) ?_
    show own_Go p e below _ (T10.setTop (mkF m 79 #[.val (.int p0), .val (.int p1), .val (.int p2), .val (.ref b1), .val (.int (own_m_0 p1)), .val (.int (own_e_0 p1)), .val (.int (1 : Int32)), .val (.int (p1 &&& (255 : Int32))), .val (.ref b8), .unset] [(.int (128 : Int32)), (.int (p1 &&& (255 : Int32))), (.int (own_m_0 (p1 &&& (255 : Int32))))]))
    by_cases hc79 : (p1 &&& (255 : Int32)) < (128 : Int32)
    · refine own_st (fun _ k => XS.icmpYes X10.here hx rfl (pc0 := 79) (pc' := 86) rfl (hb hby at_79) rfl ((own_i2 _ _ _).trans (own_yes (hc79 : (p1 &&& (255 : Int32)) < (128 : Int32)))) (by decide) (by decide) k) ?_
      show own_Go p e below _ (T10.setTop (mkF m 86 #[.val (.int p0), .val (.int p1), .val (.int p2), .val (.ref b1), .val (.int (own_m_0 p1)), .val (.int (own_e_0 p1)), .val (.int (1 : Int32)), .val (.int (p1 &&& (255 : Int32))), .val (.ref b8), .unset] [(.int (own_m_0 (p1 &&& (255 : Int32))))]))
      refine own_st (fun _ k => XS.iconst X10.here hx rfl (hb hby at_86) k) ?_
      show own_Go p e below _ (T10.setTop (mkF m 87 #[.val (.int p0), .val (.int p1), .val (.int p2), .val (.ref b1), .val (.int (own_m_0 p1)), .val (.int (own_e_0 p1)), .val (.int (1 : Int32)), .val (.int (p1 &&& (255 : Int32))), .val (.ref b8), .unset] [(.int (0 : Int32)), (.int (own_m_0 (p1 &&& (255 : Int32))))]))
      refine own_st (fun _ k => XS.icmpNo X10.here hx rfl (hb hby at_87) rfl ((own_i2 _ _ _).trans (own_nyes ((own_q0 p1 hc79) : (own_m_0 (p1 &&& (255 : Int32))) = (0 : Int32)))) k) ?_
      show own_Go p e below _ (T10.setTop (mkF m 90 #[.val (.int p0), .val (.int p1), .val (.int p2), .val (.ref b1), .val (.int (own_m_0 p1)), .val (.int (own_e_0 p1)), .val (.int (1 : Int32)), .val (.int (p1 &&& (255 : Int32))), .val (.ref b8), .unset] []))
      refine own_st (fun _ k => XS.iconst X10.here hx rfl (hb hby at_90) k) ?_
      show own_Go p e below _ (T10.setTop (mkF m 91 #[.val (.int p0), .val (.int p1), .val (.int p2), .val (.ref b1), .val (.int (own_m_0 p1)), .val (.int (own_e_0 p1)), .val (.int (1 : Int32)), .val (.int (p1 &&& (255 : Int32))), .val (.ref b8), .unset] [(.int (1 : Int32))]))
      refine own_st (fun _ k => XS.goto X10.here hx rfl (pc0 := 91) (pc' := 95) rfl (hb hby at_91) (by decide) (by decide) k) ?_
      show own_Go p e below _ (T10.setTop (mkF m 95 #[.val (.int p0), .val (.int p1), .val (.int p2), .val (.ref b1), .val (.int (own_m_0 p1)), .val (.int (own_e_0 p1)), .val (.int (1 : Int32)), .val (.int (p1 &&& (255 : Int32))), .val (.ref b8), .unset] [(.int (1 : Int32))]))
      refine own_st (fun _ k => XS.istore X10.here hx rfl (hb hby at_95) rfl (l' := #[.val (.int p0), .val (.int p1), .val (.int p2), .val (.ref b1), .val (.int (own_m_0 p1)), .val (.int (own_e_0 p1)), .val (.int (1 : Int32)), .val (.int (p1 &&& (255 : Int32))), .val (.ref b8), .val (.int (1 : Int32))]) rfl k) ?_
      show own_Go p e below _ (T10.setTop (mkF m 97 #[.val (.int p0), .val (.int p1), .val (.int p2), .val (.ref b1), .val (.int (own_m_0 p1)), .val (.int (own_e_0 p1)), .val (.int (1 : Int32)), .val (.int (p1 &&& (255 : Int32))), .val (.ref b8), .val (.int (1 : Int32))] []))
      refine own_st (fun _ k => XS.iload X10.here hx rfl (hb hby at_97) rfl k) ?_
      show own_Go p e below _ (T10.setTop (mkF m 99 #[.val (.int p0), .val (.int p1), .val (.int p2), .val (.ref b1), .val (.int (own_m_0 p1)), .val (.int (own_e_0 p1)), .val (.int (1 : Int32)), .val (.int (p1 &&& (255 : Int32))), .val (.ref b8), .val (.int (1 : Int32))] [(.int (1 : Int32))]))
      refine own_st (fun _ k => XS.ifNo X10.here hx rfl (hb hby at_99) rfl ((own_i0 _ _).trans (own_no ((by decide : ¬ ((1 : Int32) = (0 : Int32))) : ¬ ((1 : Int32) = (0 : Int32))))) k) ?_
      show own_Go p e below _ (T10.setTop (mkF m 102 #[.val (.int p0), .val (.int p1), .val (.int p2), .val (.ref b1), .val (.int (own_m_0 p1)), .val (.int (own_e_0 p1)), .val (.int (1 : Int32)), .val (.int (p1 &&& (255 : Int32))), .val (.ref b8), .val (.int (1 : Int32))] []))
      refine own_st (fun _ k => XS.iload X10.here hx rfl (hb hby at_102) rfl k) ?_
      show own_Go p e below _ (T10.setTop (mkF m 104 #[.val (.int p0), .val (.int p1), .val (.int p2), .val (.ref b1), .val (.int (own_m_0 p1)), .val (.int (own_e_0 p1)), .val (.int (1 : Int32)), .val (.int (p1 &&& (255 : Int32))), .val (.ref b8), .val (.int (1 : Int32))] [(.int (1 : Int32))]))
      refine own_st (fun _ k => XS.ifNo X10.here hx rfl (hb hby at_104) rfl ((own_i0 _ _).trans (own_no ((by decide : ¬ ((1 : Int32) = (0 : Int32))) : ¬ ((1 : Int32) = (0 : Int32))))) k) ?_
      show own_Go p e below _ (T10.setTop (mkF m 107 #[.val (.int p0), .val (.int p1), .val (.int p2), .val (.ref b1), .val (.int (own_m_0 p1)), .val (.int (own_e_0 p1)), .val (.int (1 : Int32)), .val (.int (p1 &&& (255 : Int32))), .val (.ref b8), .val (.int (1 : Int32))] []))
      refine own_st (fun _ k => XS.iconst X10.here hx rfl (hb hby at_107) k) ?_
      show own_Go p e below _ (T10.setTop (mkF m 108 #[.val (.int p0), .val (.int p1), .val (.int p2), .val (.ref b1), .val (.int (own_m_0 p1)), .val (.int (own_e_0 p1)), .val (.int (1 : Int32)), .val (.int (p1 &&& (255 : Int32))), .val (.ref b8), .val (.int (1 : Int32))] [(.int (1 : Int32))]))
      refine own_st (fun _ k => XS.goto X10.here hx rfl (pc0 := 108) (pc' := 112) rfl (hb hby at_108) (by decide) (by decide) k) ?_
      show own_Go p e below _ (T10.setTop (mkF m 112 #[.val (.int p0), .val (.int p1), .val (.int p2), .val (.ref b1), .val (.int (own_m_0 p1)), .val (.int (own_e_0 p1)), .val (.int (1 : Int32)), .val (.int (p1 &&& (255 : Int32))), .val (.ref b8), .val (.int (1 : Int32))] [(.int (1 : Int32))]))
      exact own_retZ X10 hx hlk hret rfl (hb hby at_112) ⟨rfl, N0⟩ (by decide) (by decide)
    · refine own_st (fun _ k => XS.icmpNo X10.here hx rfl (hb hby at_79) rfl ((own_i2 _ _ _).trans (own_no (hc79 : ¬ ((p1 &&& (255 : Int32)) < (128 : Int32))))) k) ?_
      show own_Go p e below _ (T10.setTop (mkF m 82 #[.val (.int p0), .val (.int p1), .val (.int p2), .val (.ref b1), .val (.int (own_m_0 p1)), .val (.int (own_e_0 p1)), .val (.int (1 : Int32)), .val (.int (p1 &&& (255 : Int32))), .val (.ref b8), .unset] [(.int (own_m_0 (p1 &&& (255 : Int32))))]))
      refine own_st (fun _ k => XS.iconst X10.here hx rfl (hb hby at_82) k) ?_
      show own_Go p e below _ (T10.setTop (mkF m 83 #[.val (.int p0), .val (.int p1), .val (.int p2), .val (.ref b1), .val (.int (own_m_0 p1)), .val (.int (own_e_0 p1)), .val (.int (1 : Int32)), .val (.int (p1 &&& (255 : Int32))), .val (.ref b8), .unset] [(.int (1 : Int32)), (.int (own_m_0 (p1 &&& (255 : Int32))))]))
      refine own_st (fun _ k => XS.goto X10.here hx rfl (pc0 := 83) (pc' := 87) rfl (hb hby at_83) (by decide) (by decide) k) ?_
      show own_Go p e below _ (T10.setTop (mkF m 87 #[.val (.int p0), .val (.int p1), .val (.int p2), .val (.ref b1), .val (.int (own_m_0 p1)), .val (.int (own_e_0 p1)), .val (.int (1 : Int32)), .val (.int (p1 &&& (255 : Int32))), .val (.ref b8), .unset] [(.int (1 : Int32)), (.int (own_m_0 (p1 &&& (255 : Int32))))]))
      refine own_st (fun _ k => XS.icmpNo X10.here hx rfl (hb hby at_87) rfl ((own_i2 _ _ _).trans (own_nyes ((own_q1 p1 hc79) : (own_m_0 (p1 &&& (255 : Int32))) = (1 : Int32)))) k) ?_
      show own_Go p e below _ (T10.setTop (mkF m 90 #[.val (.int p0), .val (.int p1), .val (.int p2), .val (.ref b1), .val (.int (own_m_0 p1)), .val (.int (own_e_0 p1)), .val (.int (1 : Int32)), .val (.int (p1 &&& (255 : Int32))), .val (.ref b8), .unset] []))
      refine own_st (fun _ k => XS.iconst X10.here hx rfl (hb hby at_90) k) ?_
      show own_Go p e below _ (T10.setTop (mkF m 91 #[.val (.int p0), .val (.int p1), .val (.int p2), .val (.ref b1), .val (.int (own_m_0 p1)), .val (.int (own_e_0 p1)), .val (.int (1 : Int32)), .val (.int (p1 &&& (255 : Int32))), .val (.ref b8), .unset] [(.int (1 : Int32))]))
      refine own_st (fun _ k => XS.goto X10.here hx rfl (pc0 := 91) (pc' := 95) rfl (hb hby at_91) (by decide) (by decide) k) ?_
      show own_Go p e below _ (T10.setTop (mkF m 95 #[.val (.int p0), .val (.int p1), .val (.int p2), .val (.ref b1), .val (.int (own_m_0 p1)), .val (.int (own_e_0 p1)), .val (.int (1 : Int32)), .val (.int (p1 &&& (255 : Int32))), .val (.ref b8), .unset] [(.int (1 : Int32))]))
      refine own_st (fun _ k => XS.istore X10.here hx rfl (hb hby at_95) rfl (l' := #[.val (.int p0), .val (.int p1), .val (.int p2), .val (.ref b1), .val (.int (own_m_0 p1)), .val (.int (own_e_0 p1)), .val (.int (1 : Int32)), .val (.int (p1 &&& (255 : Int32))), .val (.ref b8), .val (.int (1 : Int32))]) rfl k) ?_
      show own_Go p e below _ (T10.setTop (mkF m 97 #[.val (.int p0), .val (.int p1), .val (.int p2), .val (.ref b1), .val (.int (own_m_0 p1)), .val (.int (own_e_0 p1)), .val (.int (1 : Int32)), .val (.int (p1 &&& (255 : Int32))), .val (.ref b8), .val (.int (1 : Int32))] []))
      refine own_st (fun _ k => XS.iload X10.here hx rfl (hb hby at_97) rfl k) ?_
      show own_Go p e below _ (T10.setTop (mkF m 99 #[.val (.int p0), .val (.int p1), .val (.int p2), .val (.ref b1), .val (.int (own_m_0 p1)), .val (.int (own_e_0 p1)), .val (.int (1 : Int32)), .val (.int (p1 &&& (255 : Int32))), .val (.ref b8), .val (.int (1 : Int32))] [(.int (1 : Int32))]))
      refine own_st (fun _ k => XS.ifNo X10.here hx rfl (hb hby at_99) rfl ((own_i0 _ _).trans (own_no ((by decide : ¬ ((1 : Int32) = (0 : Int32))) : ¬ ((1 : Int32) = (0 : Int32))))) k) ?_
      show own_Go p e below _ (T10.setTop (mkF m 102 #[.val (.int p0), .val (.int p1), .val (.int p2), .val (.ref b1), .val (.int (own_m_0 p1)), .val (.int (own_e_0 p1)), .val (.int (1 : Int32)), .val (.int (p1 &&& (255 : Int32))), .val (.ref b8), .val (.int (1 : Int32))] []))
      refine own_st (fun _ k => XS.iload X10.here hx rfl (hb hby at_102) rfl k) ?_
      show own_Go p e below _ (T10.setTop (mkF m 104 #[.val (.int p0), .val (.int p1), .val (.int p2), .val (.ref b1), .val (.int (own_m_0 p1)), .val (.int (own_e_0 p1)), .val (.int (1 : Int32)), .val (.int (p1 &&& (255 : Int32))), .val (.ref b8), .val (.int (1 : Int32))] [(.int (1 : Int32))]))
      refine own_st (fun _ k => XS.ifNo X10.here hx rfl (hb hby at_104) rfl ((own_i0 _ _).trans (own_no ((by decide : ¬ ((1 : Int32) = (0 : Int32))) : ¬ ((1 : Int32) = (0 : Int32))))) k) ?_
      show own_Go p e below _ (T10.setTop (mkF m 107 #[.val (.int p0), .val (.int p1), .val (.int p2), .val (.ref b1), .val (.int (own_m_0 p1)), .val (.int (own_e_0 p1)), .val (.int (1 : Int32)), .val (.int (p1 &&& (255 : Int32))), .val (.ref b8), .val (.int (1 : Int32))] []))
      refine own_st (fun _ k => XS.iconst X10.here hx rfl (hb hby at_107) k) ?_
      show own_Go p e below _ (T10.setTop (mkF m 108 #[.val (.int p0), .val (.int p1), .val (.int p2), .val (.ref b1), .val (.int (own_m_0 p1)), .val (.int (own_e_0 p1)), .val (.int (1 : Int32)), .val (.int (p1 &&& (255 : Int32))), .val (.ref b8), .val (.int (1 : Int32))] [(.int (1 : Int32))]))
      refine own_st (fun _ k => XS.goto X10.here hx rfl (pc0 := 108) (pc' := 112) rfl (hb hby at_108) (by decide) (by decide) k) ?_
      show own_Go p e below _ (T10.setTop (mkF m 112 #[.val (.int p0), .val (.int p1), .val (.int p2), .val (.ref b1), .val (.int (own_m_0 p1)), .val (.int (own_e_0 p1)), .val (.int (1 : Int32)), .val (.int (p1 &&& (255 : Int32))), .val (.ref b8), .val (.int (1 : Int32))] [(.int (1 : Int32))]))
      exact own_retZ X10 hx hlk hret rfl (hb hby at_112) ⟨rfl, N0⟩ (by decide) (by decide)
set_option maxRecDepth 65536 in
set_option maxHeartbeats 40000000 in
theorem comes_1 {Post : Tables → Env → Array Value → State → Outcome → State → Prop} (hpost : ∀ tb e args s v u, (limb_1_1.after args s (.returned v) u = true ∧ limb_1_2.after args s (.returned v) u = true ∧ True) → FrameEnd s (.returned v) u (Jvm.fieldLocs frame_1_writes args s ++ Jvm.arrayLocs frame_1_arrays args s ++ Jvm.staticLocs frame_1_statics s) 16 128 → Post tb e args s (.returned v) u) :
    ArmFor flags0 classFile x code maxLocals ret World_1 tables_1 room_1 Calls_1 rest_1 Pre_1 Post := by
  intro l hfl _ _ p e ha hc hk s m args below hf hA hF happ hP
  obtain ⟨hcalls, hrest, hpre⟩ := hP
  obtain ⟨-, -, -, hnamed, -, -, -, hat⟩ := (Spec.applies_iff hf).mp happ
  obtain ⟨hg, hn⟩ := and_e (Cond.before_iff.mp (show (Jvm.Cond.and given_1 narrow_1).before args s = true from hpre))
  obtain ⟨g1, g2⟩ := and_e hg
  obtain ⟨g3, g4⟩ := and_e g2
  obtain ⟨g5, g6⟩ := and_e g4
  obtain ⟨w0, w1, w2, rfl⟩ : ∃ w0 w1 w2 : Value, args = #[w0, w1, w2] := by
    have hs : args.size = 3 := by simpa [Cond.value, given_1] using g1
    obtain ⟨L⟩ := args
    match L, hs with
    | [w0, w1, w2], _ => exact ⟨w0, w1, w2, rfl⟩
  have hw := fun d (hd : d ∈ tables_1) => atoms_spec (ws := Jvm.Cond.code x code maxLocals ret :: tables_1) hat d (List.mem_cons_of_mem _ hd)
  obtain ⟨i0, ei0⟩ := is_v g3
  obtain rfl : w0 = (.int i0) := Option.some.inj ei0
  obtain ⟨i1, ei1⟩ := is_v g5
  obtain rfl : w1 = (.int i1) := Option.some.inj ei1
  obtain ⟨i2, ei2⟩ := is_v g6
  obtain rfl : w2 = (.int i2) := Option.some.inj ei2
  obtain ⟨n, o, h1, h2, h3, _, L, rfl, ⟨rfl, N⟩, hq⟩ := rm0 l s _ hw i0 i1 i2 s.heap s.heap.size (Nat.le_refl _) p e ha hc hk s m _ below hf ((Spec.applies_iff_loose hf).mp happ).1 ⟨rfl, State.Warmed39.refl s, rfl⟩ trivial
  refine ⟨n, _, h1, h2, h3, hpost _ _ _ _ _ _ ⟨Cond.after_iff.mpr rfl, Cond.after_iff.mpr (eq_i res_at (Term.int_eval (1)) rfl), trivial⟩ ⟨hq.1, hq.2.1, (hq.2.2.sift fun y hy => Or.inr (N y hy)).mono (by decide) (by decide)⟩⟩
theorem main_1_1 : Claimed_1_1 := comes_1 fun _ _ _ _ _ _ h hF => ⟨h.1, hF⟩
theorem main_1_2 : Claimed_1_2 := comes_1 fun _ _ _ _ _ _ h hF => ⟨h.2.1, hF⟩
end Jvm.Pilot.@@N@@
namespace Jvm.Pilot.@@N@@
open Jvm Jvm.ClassFile Sem Op Lib Jvm.Free Jvm.Stand Jvm.Pilot.@@N@@.Jvm.D
/-! MADE BY PROGRAM (witnessworld.py) out of the Statement's table words and the real class files: 10 classes; the members and pool entries that the words name. The judged class is class 1, her method 1. -/
namespace start1
open Jvm.ClassFile
def u (s : String) : CpInfo := .utf8 (stringToUtf16 s)
/-- a pool by its gaps: so many unusable entries, then the entry; so many at the end -/
def gap : Nat → List CpInfo → List CpInfo
  | 0, r => r
  | n + 1, r => .unusable :: gap n r
def poolList (es : List (Nat × CpInfo)) (last : Nat) : List CpInfo := es.foldr (fun e r => gap e.1 (e.2 :: r)) (gap last [])
def pool (es : List (Nat × CpInfo)) (last : Nat) : Array CpInfo := ⟨poolList es last⟩
def fileOf (pool : Array CpInfo) (this : Nat) (attrs : Array Attribute := #[]) (ms : Array MethodInfo := #[]) (fl : Nat := 33) (sup : Nat := 0) (ifs : Array Nat := #[]) (fds : Array FieldInfo := #[]) : ClassFile where
  minorVersion := 0
  majorVersion := 65
  constantPool := pool
  accessFlags := fl
  thisClass := this
  superClass := sup
  interfaces := ifs
  fields := fds
  methods := ms
  attributes := attrs
def plain (name : String) (sup : Option ClassId) : Class where
  name := name
  kind := .ordinary
  loader := none
  accessFlags := 33
  super := sup
  interfaces := #[]
  cf := none
  fields := #[]
  methods := #[]
  instanceTypes := #[]
  staticTypes := #[]
  resolved := #[]
  callSites := []
  init := .initialized
  statics := none
  mirror := none

def pool0 : Array CpInfo := pool [(5, u "<init>"), (0, u "()V"), (1, .class_ 10), (1, u "java/lang/Object")] 113

def k0c0 : Code := { maxStack := 0, maxLocals := 1, code := object_method_1_code, exceptionTable := #[], attributes := #[] }
def k0m0 : Method := { name := "<init>", desc := "()V", sig := { parameters := [], returnType := none }, accessFlags := 1, code := some k0c0 }
/-- java/lang/Object -/
def k0 : Class := { plain "java/lang/Object" none with
  accessFlags := 33
  interfaces := #[]
  cf := some (fileOf pool0 8 #[] #[{ accessFlags := 1, nameIndex := 5, descriptorIndex := 6, attributes := #[] }] 33 0 #[] #[])
  fields := #[]
  methods := #[k0m0]
  instanceTypes := #[]
  staticTypes := #[]
  resolved := Array.replicate 124 none
  statics := none }

def pool1 : Array CpInfo := pool [(2, .class_ 4), (1, u "java/lang/Object"), (0, u "<init>"), (0, u "()V"), (0, .class_ 8), (0, u "com/example/rootward/rootward/log/LogFormat$FrameHeader"), (0, .methodref 7 10), (0, .nameAndType 5 11), (0, u "(III)V"), (0, .methodref 7 13), (0, .nameAndType 14 15), (0, u "hasMoreFragments"), (0, u "()Z"), (0, .methodref 7 17), (0, .nameAndType 18 19), (0, u "entryType"), (0, u "()I"), (0, .class_ 21), (0, u "com/example/rootward/rootward/log/FrameHeaderHasMoreFragmentsPinLaw"), (2, u "law"), (0, u "(III)Z")] 7

def k1m0 : Method := { name := "<init>", desc := "()V", sig := { parameters := [], returnType := none }, accessFlags := 2, code := none }
def k1c1 : Code := { maxStack := 5, maxLocals := 10, code := code, exceptionTable := #[], attributes := #[] }
def k1m1 : Method := { name := "law", desc := "(III)Z", sig := { parameters := [.int, .int, .int], returnType := some .boolean }, accessFlags := 9, code := some k1c1 }
/-- com/example/rootward/rootward/log/FrameHeaderHasMoreFragmentsPinLaw -/
def k1 : Class := { plain "com/example/rootward/rootward/log/FrameHeaderHasMoreFragmentsPinLaw" (some 0) with
  accessFlags := 49
  interfaces := #[]
  cf := some (fileOf pool1 20 #[] #[{ accessFlags := 2, nameIndex := 5, descriptorIndex := 6, attributes := #[] }, { accessFlags := 9, nameIndex := 24, descriptorIndex := 25, attributes := #[] }] 49 2 #[] #[])
  fields := #[]
  methods := #[k1m0, k1m1]
  instanceTypes := #[]
  staticTypes := #[]
  resolved := Array.replicate 33 none
  statics := none }

def pool2 : Array CpInfo := pool [(1, .methodref 2 3), (0, .class_ 4), (0, .nameAndType 5 6), (0, u "java/lang/Object"), (0, u "<init>"), (0, u "()V"), (0, .class_ 8), (0, u "java/lang/Record")] 13

def k2c0 : Code := { maxStack := 1, maxLocals := 1, code := jdk_30_method_1_code, exceptionTable := #[], attributes := #[] }
def k2m0 : Method := { name := "<init>", desc := "()V", sig := { parameters := [], returnType := none }, accessFlags := 4, code := some k2c0 }
/-- java/lang/Record -/
def k2 : Class := { plain "java/lang/Record" (some 0) with
  accessFlags := 1057
  interfaces := #[]
  cf := some (fileOf pool2 7 #[] #[{ accessFlags := 4, nameIndex := 5, descriptorIndex := 6, attributes := #[] }] 1057 2 #[] #[])
  fields := #[]
  methods := #[k2m0]
  instanceTypes := #[]
  staticTypes := #[]
  resolved := Array.replicate 22 none
  statics := none }

def pool3 : Array CpInfo := pool [(1, .class_ 2), (0, u "com/example/rootward/rootward/log/LogFormat"), (0, .methodref 4 5), (0, .class_ 6), (0, .nameAndType 7 8), (0, u "java/lang/Record"), (0, u "<init>"), (0, u "()V"), (0, .fieldref 10 11), (0, .class_ 12), (0, .nameAndType 13 14), (0, u "com/example/rootward/rootward/log/LogFormat$FrameHeader"), (0, u "checksum"), (0, u "I"), (0, .fieldref 10 16), (0, .nameAndType 17 14), (0, u "type"), (0, .fieldref 10 19), (0, .nameAndType 20 14), (0, u "length"), (5, u "()I"), (6, u "(III)V"), (54, u "entryType"), (0, u "hasMoreFragments"), (0, u "()Z")] 26

def k3c0 : Code := { maxStack := 2, maxLocals := 4, code := prog_23_method_1_code, exceptionTable := #[], attributes := #[] }
def k3m0 : Method := { name := "<init>", desc := "(III)V", sig := { parameters := [.int, .int, .int], returnType := none }, accessFlags := 0, code := some k3c0 }
def k3c1 : Code := { maxStack := 2, maxLocals := 1, code := prog_23_method_7_code, exceptionTable := #[], attributes := #[] }
def k3m1 : Method := { name := "entryType", desc := "()I", sig := { parameters := [], returnType := some .int }, accessFlags := 0, code := some k3c1 }
def k3c2 : Code := { maxStack := 2, maxLocals := 1, code := prog_23_method_8_code, exceptionTable := #[], attributes := #[] }
def k3m2 : Method := { name := "hasMoreFragments", desc := "()Z", sig := { parameters := [], returnType := some .boolean }, accessFlags := 0, code := some k3c2 }
/-- com/example/rootward/rootward/log/LogFormat$FrameHeader -/
def k3 : Class := { plain "com/example/rootward/rootward/log/LogFormat$FrameHeader" (some 2) with
  accessFlags := 48
  interfaces := #[]
  cf := some (fileOf pool3 10 #[.nestHost 1] #[{ accessFlags := 0, nameIndex := 7, descriptorIndex := 33, attributes := #[] }, { accessFlags := 0, nameIndex := 88, descriptorIndex := 26, attributes := #[] }, { accessFlags := 0, nameIndex := 89, descriptorIndex := 90, attributes := #[] }] 48 4 #[] #[{ accessFlags := 18, nameIndex := 13, descriptorIndex := 14, attributes := #[] }, { accessFlags := 18, nameIndex := 17, descriptorIndex := 14, attributes := #[] }, { accessFlags := 18, nameIndex := 20, descriptorIndex := 14, attributes := #[] }])
  fields := #[{ name := "checksum", type := .int, accessFlags := 18, slot := 0, constantValue := 0 }, { name := "type", type := .int, accessFlags := 18, slot := 1, constantValue := 0 }, { name := "length", type := .int, accessFlags := 18, slot := 2, constantValue := 0 }]
  methods := #[k3m0, k3m1, k3m2]
  instanceTypes := #[.int, .int, .int]
  staticTypes := #[]
  resolved := Array.replicate 117 none
  statics := none }

def pool4 : Array CpInfo := pool [(1, u "java/lang/Cloneable"), (0, .class_ 1), (0, u "java/lang/Object"), (0, .class_ 3)] 3

/-- java/lang/Cloneable -/
def k4 : Class := { plain "java/lang/Cloneable" (some 0) with
  accessFlags := 1537
  interfaces := #[]
  cf := some (fileOf pool4 2 #[] #[] 1537 4 #[] #[])
  fields := #[]
  methods := #[]
  instanceTypes := #[]
  staticTypes := #[]
  resolved := Array.replicate 8 none
  statics := none }

def pool5 : Array CpInfo := pool [(1, u "java/io/Serializable"), (0, .class_ 1), (0, u "java/lang/Object"), (0, .class_ 3)] 3

/-- java/io/Serializable -/
def k5 : Class := { plain "java/io/Serializable" (some 0) with
  accessFlags := 1537
  interfaces := #[]
  cf := some (fileOf pool5 2 #[] #[] 1537 4 #[] #[])
  fields := #[]
  methods := #[]
  instanceTypes := #[]
  staticTypes := #[]
  resolved := Array.replicate 8 none
  statics := none }

/-- the primitive byte -/
def k6 : Class := { plain "byte" none with kind := .primitive 'B', accessFlags := 0x411 }
/-- [B -/
def k7 : Class := { plain "[B" (some 0) with kind := .array 6 .byte, interfaces := #[4, 5], accessFlags := 1041 }

/-- the primitive int -/
def k8 : Class := { plain "int" none with kind := .primitive 'I', accessFlags := 0x411 }
/-- [I -/
def k9 : Class := { plain "[I" (some 0) with kind := .array 8 .int, interfaces := #[4, 5], accessFlags := 1041 }

def heap : Heap := #[]
def classes : Array Class := #[k0, k1, k2, k3, k4, k5, k6, k7, k8, k9]
def interned : List (Array UInt16 × Addr) := []
def slotsUsed : Nat := 0
def theMethod : MethodId := ⟨1, 1⟩
def args0 : Array Value := #[.int 5, .int 3, .int 8]
def aboutOver (below : List Frame) : State where
  vm := { classes := classes, interned := interned.toArray }
  heap := heap
  slotsUsed := slotsUsed
  threads := #[{ frames := .invoking theMethod args0 :: below }]
def below0 : List Frame := [.native { method := ⟨0, 0⟩, args := #[] }]
def about1 : State := aboutOver below0
def p0 : Program := .bare "" "" ""
def e0 : Env := launch0.env 0 0 0
theorem w_frames : about1.frames = Frame.invoking theMethod args0 :: below0 := rfl
set_option maxRecDepth 65536 in
theorem w_args : argsFit about1.vm theMethod args0 = true := by decide +kernel
set_option maxRecDepth 65536 in
theorem w_heap : heapFits about1 = true := by decide +kernel
set_option maxRecDepth 65536 in
theorem w_runnable : about1.curStatus? = some .runnable := by decide +kernel
set_option maxRecDepth 65536 in
theorem w_alone : about1.alone = true := by decide +kernel
set_option maxRecDepth 65536 in
theorem w_named : about1.methodNamed? x = some theMethod := by decide +kernel
set_option maxRecDepth 65536 in
theorem w_hears : about1.hears theMethod below0 = true := by decide +kernel
set_option maxRecDepth 65536 in
theorem w_ripe : about1.ripe theMethod args0 below0 = true := by decide +kernel
theorem w_running : about1.status = .running := rfl
set_option maxRecDepth 65536 in
theorem w_room : about1.hasRoom e0.platform room_1 = true :=
  launch0.hasRoom_least _ room_1 (by decide +kernel) (by decide +kernel) (by decide +kernel) (by decide +kernel) (by decide +kernel) (by decide +kernel)
theorem allAtoms_all (ts : List Jvm.Cond) (a : Array Jvm.Value) (st : Jvm.State) : (allAtoms ts).before a st = ts.all (fun c => c.before a st) := by
  induction ts with
  | nil => rfl
  | cons c t ih =>
    show (Jvm.Cond.and c (allAtoms t)).before a st = _
    rw [Jvm.Cond.before_and, ih, List.all_cons]
def words1 : List Jvm.Cond := Jvm.Cond.code x code maxLocals ret :: tables_1
/-- a 'code' word, met by the world's own term for the bytes: nothing is compared byte by byte -/
theorem code_word {y : MethodName} {bytes : ByteArray} {mx : Nat} {rt : Option FieldType} {a : Array Value} {s : State} {m : MethodId} {meth : Method} {c : Code} (h1 : s.methodNamed? y = some m) (h2 : s.vm.method? m = some meth) (h3 : meth.code = some c) (h4 : c.code = bytes)
    (h5 : (c.maxLocals == mx && c.exceptionTable.isEmpty && decide (c.maxStack ≤ mostOperands) && decide (meth.sig.returnType = rt) && !meth.locks && decide (parseMethodDescriptor y.desc = some meth.sig)) = true) : (Jvm.Cond.code y bytes mx rt).before a s = true := by
  simp only [Bool.and_eq_true, beq_iff_eq, Bool.not_eq_true', decide_eq_true_eq] at h5
  obtain ⟨⟨⟨⟨⟨g1, g2⟩, g3⟩, g4⟩, g5⟩, g6⟩ := h5
  simp [Cond.before, Cond.holds, Cond.value, h1, h2, h3, h4, g1, g2, g3, g4, g5, g6]
def isCode : Jvm.Cond → Bool
  | .code _ _ _ _ => true
  | _ => false
theorem all_split {L : List Jvm.Cond} {P : Jvm.Cond → Bool} (h1 : L.all (fun c => isCode c || P c) = true) (h2 : ∀ c ∈ L.filter isCode, P c = true) : L.all P = true := by
  refine List.all_eq_true.mpr fun c hc => ?_
  have h := List.all_eq_true.mp h1 c hc
  rcases Bool.eq_false_or_eq_true (isCode c) with hi | hi
  · exact h2 c (List.mem_filter.mpr ⟨hc, hi⟩)
  · simpa [hi] using h
set_option maxRecDepth 65536 in
theorem w_c0 : (Jvm.Cond.code x code maxLocals ret).before args0 about1 = true := code_word (m := ⟨1, 1⟩) (meth := k1m1) (c := k1c1) (by decide +kernel) rfl rfl rfl (by decide +kernel)
set_option maxRecDepth 65536 in
theorem w_c1 : (Jvm.Cond.code ({ cls := "com/example/rootward/rootward/log/LogFormat$FrameHeader", name := "<init>", desc := "(III)V" } : Jvm.MethodName) prog_23_method_1_code (4 : Nat) (Option.none : Option Jvm.ClassFile.FieldType)).before args0 about1 = true := code_word (m := ⟨3, 0⟩) (meth := k3m0) (c := k3c0) (by decide +kernel) rfl rfl rfl (by decide +kernel)
set_option maxRecDepth 65536 in
theorem w_c2 : (Jvm.Cond.code ({ cls := "java/lang/Record", name := "<init>", desc := "()V" } : Jvm.MethodName) jdk_30_method_1_code (1 : Nat) (Option.none : Option Jvm.ClassFile.FieldType)).before args0 about1 = true := code_word (m := ⟨2, 0⟩) (meth := k2m0) (c := k2c0) (by decide +kernel) rfl rfl rfl (by decide +kernel)
set_option maxRecDepth 65536 in
theorem w_c3 : (Jvm.Cond.code ({ cls := "java/lang/Object", name := "<init>", desc := "()V" } : Jvm.MethodName) object_method_1_code (1 : Nat) (Option.none : Option Jvm.ClassFile.FieldType)).before args0 about1 = true := code_word (m := ⟨0, 0⟩) (meth := k0m0) (c := k0c0) (by decide +kernel) rfl rfl rfl (by decide +kernel)
set_option maxRecDepth 65536 in
theorem w_c4 : (Jvm.Cond.code ({ cls := "com/example/rootward/rootward/log/LogFormat$FrameHeader", name := "hasMoreFragments", desc := "()Z" } : Jvm.MethodName) prog_23_method_8_code (1 : Nat) (Option.some Jvm.ClassFile.FieldType.boolean)).before args0 about1 = true := code_word (m := ⟨3, 2⟩) (meth := k3m2) (c := k3c2) (by decide +kernel) rfl rfl rfl (by decide +kernel)
set_option maxRecDepth 65536 in
theorem w_c5 : (Jvm.Cond.code ({ cls := "com/example/rootward/rootward/log/LogFormat$FrameHeader", name := "entryType", desc := "()I" } : Jvm.MethodName) prog_23_method_7_code (1 : Nat) (Option.some Jvm.ClassFile.FieldType.int)).before args0 about1 = true := code_word (m := ⟨3, 1⟩) (meth := k3m1) (c := k3c1) (by decide +kernel) rfl rfl rfl (by decide +kernel)
def codes1 : List Jvm.Cond := [Jvm.Cond.code x code maxLocals ret, Jvm.Cond.code ({ cls := "com/example/rootward/rootward/log/LogFormat$FrameHeader", name := "<init>", desc := "(III)V" } : Jvm.MethodName) prog_23_method_1_code (4 : Nat) (Option.none : Option Jvm.ClassFile.FieldType), Jvm.Cond.code ({ cls := "java/lang/Record", name := "<init>", desc := "()V" } : Jvm.MethodName) jdk_30_method_1_code (1 : Nat) (Option.none : Option Jvm.ClassFile.FieldType), Jvm.Cond.code ({ cls := "java/lang/Object", name := "<init>", desc := "()V" } : Jvm.MethodName) object_method_1_code (1 : Nat) (Option.none : Option Jvm.ClassFile.FieldType), Jvm.Cond.code ({ cls := "com/example/rootward/rootward/log/LogFormat$FrameHeader", name := "hasMoreFragments", desc := "()Z" } : Jvm.MethodName) prog_23_method_8_code (1 : Nat) (Option.some Jvm.ClassFile.FieldType.boolean), Jvm.Cond.code ({ cls := "com/example/rootward/rootward/log/LogFormat$FrameHeader", name := "entryType", desc := "()I" } : Jvm.MethodName) prog_23_method_7_code (1 : Nat) (Option.some Jvm.ClassFile.FieldType.int)]
set_option maxRecDepth 65536 in
theorem codes_eq : words1.filter isCode = codes1 := rfl
theorem w_codes : ∀ c ∈ words1.filter isCode, c.before args0 about1 = true := by
  rw [codes_eq]
  intro c hc
  simp only [codes1, List.mem_cons, List.not_mem_nil, or_false] at hc
  rcases hc with rfl | rfl | rfl | rfl | rfl | rfl
  · exact w_c0
  · exact w_c1
  · exact w_c2
  · exact w_c3
  · exact w_c4
  · exact w_c5
set_option maxRecDepth 65536 in
theorem w_t1 : (words1.take 24).all (fun c => isCode c || c.before args0 about1) = true := by decide +kernel
set_option maxRecDepth 65536 in
theorem w_t2 : (words1.drop 24).all (fun c => isCode c || c.before args0 about1) = true := by decide +kernel
theorem w_tables : (allAtoms (Jvm.Cond.code x code maxLocals ret :: tables_1)).before args0 about1 = true := by
  rw [allAtoms_all]
  show words1.all (fun c => c.before args0 about1) = true
  refine all_split ?_ w_codes
  rw [← List.take_append_drop 24 words1, List.all_append, w_t1, w_t2]
  rfl
set_option maxRecDepth 65536 in
theorem w_case : (Jvm.Cond.and given_1 narrow_1).before args0 about1 = true := by decide +kernel
theorem w_applies : (headSpec (Jvm.Cond.code x code maxLocals ret :: tables_1) room_1).applies x e0.platform about1 = true :=
  (Spec.applies_iff w_frames).mpr ⟨w_running, w_runnable, w_alone, w_named, w_hears, w_ripe, w_room, w_tables⟩
theorem atStart : AtStart classFile x code maxLocals ret World_1 tables_1 room_1 Calls_1 rest_1 Pre_1 launch0 p0 e0 about1 theMethod args0 below0 :=
  ⟨lists_1, trivial, launch0.admits_env _ _ _, launch0.least_env, fairChoices_fair.cas, fairChoices_fair.clock, w_frames, w_args, w_heap, w_applies, trivial, trivial, w_case⟩
end start1
theorem witness_1 : WitnessClaimed_1 := ⟨start1.p0, start1.e0, start1.about1, start1.theMethod, start1.args0, start1.below0, start1.atStart⟩
end Jvm.Pilot.@@N@@
