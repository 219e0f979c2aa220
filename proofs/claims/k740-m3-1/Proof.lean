import JvmDerived
import JvmDerived.Pilot.@@N@@Statement
import JvmDerived.Pilot.@@N@@Code
set_option linter.unusedVariables false
set_option linter.unusedSimpArgs false
namespace Jvm.Pilot.@@N@@
open Jvm Jvm.ClassFile Sem Op Lib Jvm.Free Jvm.Stand Jvm.LawKit Jvm.RoadKit Bundle Jvm.Pilot.@@N@@.Jvm.D
section OwnKit
variable {p : Program} {l : Launch} {e : Env} {R : Room} {s : State} {m : MethodId} {args : Array Value} {below : List Frame} {meth : Method} {c : Code} {T : State} {locs : List Loc} {cells slots : Nat} {Z : State} {a0 : Array Value} {h : Heap}
/-- from the state U on the run comes to an end of which Q holds -/
def own_Go (p : Program) (e : Env) (below : List Frame) (Q : Outcome → State → Prop) (U : State) : Prop :=
  ∃ u o, Steps p.tables e below U u ∧ u.status = .running ∧ Ended u below o ∧ Q o u
theorem own_st {Q : Outcome → State → Prop} {U V : State} (k : ∀ t, Steps p.tables e below V t → Steps p.tables e below U t) (q : own_Go p e below Q V) : own_Go p e below Q U := by
  obtain ⟨u, o, h1, h2⟩ := q
  exact ⟨u, o, k _ h1, h2⟩
theorem own_tr {Q : Outcome → State → Prop} {U V : State} (k : Steps p.tables e below U V) (q : own_Go p e below Q V) : own_Go p e below Q U := by
  obtain ⟨u, o, h1, h2⟩ := q
  exact ⟨u, o, k.trans h1, h2⟩
/-- what a body leaves, said of its end -/
abbrev own_Post (s : State) (Qc : Option Value → Heap → List Loc → Prop) (k n : Nat) : Outcome → State → Prop := fun o u => ∃ v L, o = .returned v ∧ Qc v u.heap L ∧ FrameEnd s o u L k n
theorem own_body {y : MethodName} {bytes : ByteArray} {maxL : Nat} {ret : Option FieldType} {ws : List Jvm.Cond} {rm : Room} {as' : Array Value} {h0 : Heap} {Qc : Option Value → Heap → List Loc → Prop} {k n : Nat} (hpl : plainFor y = true)
    (body : ∀ (p : Program) (e : Env) (s : State) (m : MethodId) (below : List Frame) (meth : Method) (c : Code) (s₁ : State), Stand p l e rm s m as' below meth c s₁ [] 0 0 → p.tables.exec = Jvm.exec → Z.Warmed39 s.vm → c.code = bytes → c.maxLocals = maxL → s.vm.findClass y.cls = some m.cls →
      meth.sig.returnType = ret → meth.locks = false → meth.name = y.name → s₁.heap = h0 → own_Go p e below (own_Post s Qc k n) (s₁.setTop (entryFrame m as' maxL))) :
    MetFree l y (head1 (Jvm.Cond.code y bytes maxL ret :: ws) rm) (fun a U => a = as' ∧ Z.Warmed39 U.vm ∧ U.heap = h0) (fun _ _ _ _ _ => True) (fun _ U o U' => own_Post U Qc k n o U') := by
  refine MetFree.of_bodySF hpl hisR ?_
  intro p e s m args below meth c s₁ Bd hml0 hP hK
  obtain ⟨rfl, hZ, hh⟩ := hP
  exact body p e s m below meth c s₁ (Stand.of_body Bd) Bd.exec hZ Bd.bytes hml0 (findClass_of_methodNamed Bd.named) Bd.returns Bd.notSynchronized (name_of_methodNamed Bd.named Bd.method).1 (by rw [← hh, Bd.state]; rfl)
theorem own_end {Qc : Option Value → Heap → List Loc → Prop} {k n : Nat} {v : Option Value} (X : Stand p l e R s m args below meth c T locs cells slots) (hlk : meth.locks = false) (hv : meth.sig.returnType = none → v = none) {g : JFrame}
    (hst : ∀ fs, (∀ (f : JFrame) (acts : List Action), f.method = m → f.locked = none → f.entered = [] → (doReturn e (T.setTop f) acts v).1 = T.setFrames fs) → Steps p.tables e below (T.setTop g) (T.setFrames fs))
    (hQ : Qc v T.heap locs) (hk : cells ≤ k) (hn : slots ≤ n) : own_Go p e below (own_Post s Qc k n) (T.setTop g) := by
  obtain ⟨fs, hr, hrun, hended, hW, hsame⟩ := X.leave (v := v) hv hlk
  exact ⟨_, _, hst fs hr, hrun, hended, _, _, rfl, hQ, ⟨_, rfl⟩, hW, hsame.mono hk hn⟩
theorem own_retI {Qc : Option Value → Heap → List Loc → Prop} {k n : Nat} (X : Stand p l e R s m args below meth c T locs cells slots) (hx : p.tables.exec = Jvm.exec) (hlk : meth.locks = false) (hret : meth.sig.returnType = some .int) {pc : Nat} {Ls : Array Slot} {z : Int32} {rest : List Value}
    (hd : decode c.code pc = .ok (.ireturn, 1)) (hQ : Qc (some (.int z)) T.heap locs) (hk : cells ≤ k) (hn : slots ≤ n) : own_Go p e below (own_Post s Qc k n) (T.setTop (mkF m pc Ls (.int z :: rest))) :=
  own_end X hlk (fun q => by rw [hret] at q; cases q) (fun fs hr => retOut X hx hret (w := .int z) (t := .int) rfl (Or.inl ⟨rfl, Or.inl rfl, z, rfl⟩) hd hr) hQ hk hn
theorem own_retZ {Qc : Option Value → Heap → List Loc → Prop} {k n : Nat} (X : Stand p l e R s m args below meth c T locs cells slots) (hx : p.tables.exec = Jvm.exec) (hlk : meth.locks = false) (hret : meth.sig.returnType = some .boolean) {pc : Nat} {Ls : Array Slot} {z : Int32} {rest : List Value}
    (hz : narrow .boolean (.int z) = .int z) (hd : decode c.code pc = .ok (.ireturn, 1)) (hQ : Qc (some (.int z)) T.heap locs) (hk : cells ≤ k) (hn : slots ≤ n) : own_Go p e below (own_Post s Qc k n) (T.setTop (mkF m pc Ls (.int z :: rest))) :=
  own_end X hlk (fun q => by rw [hret] at q; cases q) (fun fs hr => retOut X hx hret (w := .int z) (t := .boolean) hz (Or.inl ⟨rfl, Or.inr (Or.inl rfl), z, rfl⟩) hd hr) hQ hk hn
theorem own_retJ {Qc : Option Value → Heap → List Loc → Prop} {k n : Nat} (X : Stand p l e R s m args below meth c T locs cells slots) (hx : p.tables.exec = Jvm.exec) (hlk : meth.locks = false) (hret : meth.sig.returnType = some .long) {pc : Nat} {Ls : Array Slot} {z : Int64} {rest : List Value}
    (hd : decode c.code pc = .ok (.lreturn, 1)) (hQ : Qc (some (.long z)) T.heap locs) (hk : cells ≤ k) (hn : slots ≤ n) : own_Go p e below (own_Post s Qc k n) (T.setTop (mkF m pc Ls (.long z :: rest))) :=
  own_end X hlk (fun q => by rw [hret] at q; cases q) (fun fs hr => retOut X hx hret (w := .long z) (t := .long) rfl (Or.inr (Or.inl ⟨rfl, rfl, z, rfl⟩)) hd hr) hQ hk hn
theorem own_retA {Qc : Option Value → Heap → List Loc → Prop} {k n : Nat} (X : Stand p l e R s m args below meth c T locs cells slots) (hx : p.tables.exec = Jvm.exec) (hlk : meth.locks = false) {t : FieldType} (hret : meth.sig.returnType = some t) (ht : t.isReference = true) {pc : Nat} {Ls : Array Slot} {w : Value} (hw : w.isRef = true)
    (hd : decode c.code pc = .ok (.areturn, 1)) (hQ : Qc (some w) T.heap locs) (hk : cells ≤ k) (hn : slots ≤ n) : own_Go p e below (own_Post s Qc k n) (T.setTop (mkF m pc Ls [w])) :=
  own_end X hlk (fun q => by rw [hret] at q; cases q) (fun fs hr => X.areturnOut hx hw hret ht hd hr) hQ hk hn
theorem own_retV {Qc : Option Value → Heap → List Loc → Prop} {k n : Nat} (X : Stand p l e R s m args below meth c T locs cells slots) (hx : p.tables.exec = Jvm.exec) (hlk : meth.locks = false) (hret : meth.sig.returnType = none) {pc : Nat} {Ls : Array Slot}
    (hd : decode c.code pc = .ok (.return_, 1)) (hQ : Qc none T.heap locs) (hk : cells ≤ k) (hn : slots ≤ n) : own_Go p e below (own_Post s Qc k n) (T.setTop (mkF m pc Ls [])) :=
  own_end X hlk (fun _ => rfl) (fun fs hr => X.returnOut hx hret hd hr) hQ hk hn
/-- a callee's contract, as own_body proves it and the three calls below spend it -/
abbrev own_Met (l : Launch) (Z : State) (y : MethodName) (bytes : ByteArray) (maxL : Nat) (ret : Option FieldType) (rm : Room) (as' : Array Value) (h0 : Heap) (Qc : Option Value → Heap → List Loc → Prop) : Prop :=
  MetFree l y (head1 [Jvm.Cond.code y bytes maxL ret] rm) (fun a U => a = as' ∧ Z.Warmed39 U.vm ∧ U.heap = h0) (fun _ _ _ _ _ => True) (fun _ U o U' => own_Post U Qc rm.cells rm.slots o U')
theorem own_callS (X : Stand p l e R s m args below meth c T locs cells slots) (hx : p.tables.exec = Jvm.exec) (hZ : Z.Warmed39 s.vm) {own : String} {index : Nat} {y : MethodName} {bytes : ByteArray} {maxL : Nat} {ret : Option FieldType} {rm : Room} {Qc : Option Value → Heap → List Loc → Prop} {argsL rest : List Value} {ps : List FieldType} {W : Nat} {g : JFrame}
    (hM : own_Met l Z y bytes maxL ret rm argsL.toArray h Qc) (hown : s.vm.findClass own = some m.cls) (w1 : (Jvm.Cond.methodLink own index y).before a0 Z = true) (w2 : (Jvm.Cond.static y).before a0 Z = true) (w3 : (Jvm.Cond.initialized y.cls).before a0 Z = true) (w4 : (Jvm.Cond.code y bytes maxL ret).before a0 Z = true)
    (hy : y.cls ≠ "java/lang/invoke/MethodHandle" ∧ y.cls ≠ "java/lang/invoke/VarHandle") (eT : T.heap = h) (hg : g.method = m) (hsize : g.locals.size = c.maxLocals) (hdesc : parseMethodDescriptor y.desc = some ⟨ps, ret⟩) (hlen : argsL.length = ps.length) (hstack : g.stack = argsL.reverse ++ rest)
    (hW : 2 * g.monitorRoom + (rest.map fun v => v.category).sum ≤ W) (hdg : decode c.code g.pc = .ok (.invokestatic index, 3)) (hf : rm.frames + 1 ≤ R.frames) (hl : W + (maxL + 11) + rm.locals ≤ R.locals) (hc : cells + rm.cells ≤ R.cells) (hs : slots + rm.slots ≤ R.slots) :
    ∃ v T' L, Stand p l e R s m args below meth c T' (locs ++ L) (cells + rm.cells) (slots + rm.slots) ∧ Qc v T'.heap L ∧ ∀ target, Steps p.tables e below (T'.setTop { g with pc := g.pc + 3, stack := v.toList ++ rest }) target → Steps p.tables e below (T.setTop g) target := by
  obtain ⟨v, _, ⟨T1, L1, k1, n1⟩, -, X1, ⟨L, hQ, q1, q2, q3⟩, st⟩ := Jvm.LawKit.callS X hx (y := y) hown (mvT hZ w1) (mvT hZ w2) (mvT hZ w3) (mvT hZ w4) hy (backOf (W := W) hM hZ w4 w3 hf hl) (g := g) hg hsize (lenOf hdesc hlen) hstack hW hdg (fun _ _ => ⟨rfl, eT, hc, hs⟩)
  dsimp only [Pt.U, Pt.locs, Pt.cells, Pt.slots] at X1 q1 q2 q3 st hQ
  subst q1 q2 q3
  exact ⟨v, T1, L, X1, hQ, st⟩
theorem own_callI (X : Stand p l e R s m args below meth c T locs cells slots) (hx : p.tables.exec = Jvm.exec) (hZ : Z.Warmed39 s.vm) {own : String} {index : Nat} {y : MethodName} {bytes : ByteArray} {maxL : Nat} {rm : Room} {Qc : Option Value → Heap → List Loc → Prop} {a : Addr} {argsL rest : List Value} {ps : List FieldType} {W : Nat} {g : JFrame}
    (hM : own_Met l Z y bytes maxL none rm (.ref a :: argsL).toArray h Qc) (hn : y.name = "<init>") (hown : s.vm.findClass own = some m.cls) (w1 : (Jvm.Cond.methodLink own index y).before a0 Z = true) (w2 : (Jvm.Cond.instanceMethod y).before a0 Z = true) (w3 : (Jvm.Cond.initialized y.cls).before a0 Z = true) (w4 : (Jvm.Cond.code y bytes maxL none).before a0 Z = true)
    (hy : y.cls ≠ "java/lang/invoke/MethodHandle" ∧ y.cls ≠ "java/lang/invoke/VarHandle") (eT : T.heap = h) (hg : g.method = m) (hsize : g.locals.size = c.maxLocals) (hdesc : parseMethodDescriptor y.desc = some ⟨ps, none⟩) (hlen : argsL.length = ps.length) (hstack : g.stack = argsL.reverse ++ .ref a :: rest)
    (hW : 2 * g.monitorRoom + (rest.map fun v => v.category).sum ≤ W) (hdg : decode c.code g.pc = .ok (.invokespecial index, 3)) (hf : rm.frames + 1 ≤ R.frames) (hl : W + (maxL + 11) + rm.locals ≤ R.locals) (hc : cells + rm.cells ≤ R.cells) (hs : slots + rm.slots ≤ R.slots) :
    ∃ v T' L, Stand p l e R s m args below meth c T' (locs ++ L) (cells + rm.cells) (slots + rm.slots) ∧ Qc v T'.heap L ∧ ∀ target, Steps p.tables e below (T'.setTop { g with pc := g.pc + 3, stack := v.toList ++ rest }) target → Steps p.tables e below (T.setTop g) target := by
  obtain ⟨v, _, ⟨T1, L1, k1, n1⟩, -, X1, ⟨L, hQ, q1, q2, q3⟩, st⟩ := X.specialBack hx (y := y) hn hown (mvT hZ w1) (mvT hZ w2) (mvT hZ w4) hy (backOf (W := W) hM hZ w4 w3 hf hl) (g := g) hg hsize (Steps.refl _) (a := a) (lenOf hdesc hlen) hstack hW hdg (fun _ _ => ⟨rfl, eT, hc, hs⟩)
  dsimp only [Pt.U, Pt.locs, Pt.cells, Pt.slots] at X1 q1 q2 q3 st hQ
  subst q1 q2 q3
  exact ⟨v, T1, L, X1, hQ, fun _ q => st.trans q⟩
theorem own_callV (X : Stand p l e R s m args below meth c T locs cells slots) (hx : p.tables.exec = Jvm.exec) (hZ : Z.Warmed39 s.vm) {own : String} {index : Nat} {y : MethodName} {bytes : ByteArray} {maxL : Nat} {ret : Option FieldType} {rm : Room} {Qc : Option Value → Heap → List Loc → Prop} {a : Addr} {argsL rest : List Value} {ps : List FieldType} {W : Nat} {g : JFrame}
    (hM : own_Met l Z y bytes maxL ret rm (.ref a :: argsL).toArray h Qc) (E : Exa Z h a y.cls) (hown : s.vm.findClass own = some m.cls) (w1 : (Jvm.Cond.methodLink own index y).before a0 Z = true) (w2 : (Jvm.Cond.declares y).before a0 Z = true) (w3 : (Jvm.Cond.selects y.cls y y).before a0 Z = true) (w4 : (Jvm.Cond.instanceMethod y).before a0 Z = true) (w5 : (Jvm.Cond.initialized y.cls).before a0 Z = true) (w6 : (Jvm.Cond.code y bytes maxL ret).before a0 Z = true)
    (hy : y.cls ≠ "java/lang/invoke/MethodHandle" ∧ y.cls ≠ "java/lang/invoke/VarHandle") (eT : T.heap = h) (hg : g.method = m) (hsize : g.locals.size = c.maxLocals) (hdesc : parseMethodDescriptor y.desc = some ⟨ps, ret⟩) (hlen : argsL.length = ps.length) (hstack : g.stack = argsL.reverse ++ .ref a :: rest)
    (hW : 2 * g.monitorRoom + (rest.map fun v => v.category).sum ≤ W) (hdg : decode c.code g.pc = .ok (.invokevirtual index, 3)) (hf : rm.frames + 1 ≤ R.frames) (hl : W + (maxL + 11) + rm.locals ≤ R.locals) (hc : cells + rm.cells ≤ R.cells) (hs : slots + rm.slots ≤ R.slots) :
    ∃ v T' L, Stand p l e R s m args below meth c T' (locs ++ L) (cells + rm.cells) (slots + rm.slots) ∧ Qc v T'.heap L ∧ ∀ target, Steps p.tables e below (T'.setTop { g with pc := g.pc + 3, stack := v.toList ++ rest }) target → Steps p.tables e below (T.setTop g) target := by
  obtain ⟨cq, kq, qa, qb, qc⟩ := isOf hZ eT E
  obtain ⟨v, _, ⟨T1, L1, k1, n1⟩, -, X1, ⟨L, hQ, q1, q2, q3⟩, st⟩ := X.virtualBack hx (y := y) (z := y) hown (mvT hZ w1) (mvT hZ w2) (notFace_of_selects (args := #[]) (mvT hZ w3)) (mvT hZ w3) (mvT hZ w4) hy (backOf (W := W) hM hZ w6 w5 hf hl) qa qc (g := g) hg hsize (Steps.refl _) (lenOf hdesc hlen) hstack hW hdg (fun _ _ => ⟨rfl, eT, hc, hs⟩)
  dsimp only [Pt.U, Pt.locs, Pt.cells, Pt.slots] at X1 q1 q2 q3 st hQ
  subst q1 q2 q3
  exact ⟨v, T1, L, X1, hQ, fun _ q => st.trans q⟩
/-- what a body that writes nothing leaves -/
abbrev own_P (v : Option Value) (h : Heap) : Option Value → Heap → List Loc → Prop := fun w h' L => w = v ∧ L = [] ∧ h' = h
theorem own_flat (X : Stand p l e R s m args below meth c T (locs ++ []) (cells + 0) (slots + 0)) : Stand p l e R s m args below meth c T locs cells slots := by
  rw [List.append_nil] at X
  exact X
def own_c32 : ClassFile.Cond → Int32 → Int32 → Bool
  | .lt, x, y => decide (x < y)
  | .ge, x, y => !decide (x < y)
  | .gt, x, y => decide (y < x)
  | .le, x, y => !decide (y < x)
  | .eq, x, y => decide (x = y)
  | .ne, x, y => !decide (x = y)
def own_c64 : ClassFile.Cond → Int64 → Int64 → Bool
  | .lt, x, y => decide (x < y)
  | .ge, x, y => !decide (x < y)
  | .gt, x, y => decide (y < x)
  | .le, x, y => !decide (y < x)
  | .eq, x, y => decide (x = y)
  | .ne, x, y => !decide (x = y)
theorem own_yes {P : Prop} [Decidable P] (q : P) : decide P = true := decide_eq_true q
theorem own_no {P : Prop} [Decidable P] (q : ¬ P) : decide P = false := decide_eq_false q
theorem own_nyes {P : Prop} [Decidable P] (q : P) : (!decide P) = false := by rw [decide_eq_true q]; rfl
theorem own_nno {P : Prop} [Decidable P] (q : ¬ P) : (!decide P) = true := by rw [decide_eq_false q]; rfl
theorem own_i2 (cd : ClassFile.Cond) (x y : Int32) : if_icmp.holds cd x y = own_c32 cd x y := by
  cases cd
  case lt => by_cases q : x < y; · exact (tlt q).1.trans (own_yes q).symm
             · exact (flt q).1.trans (own_no q).symm
  case ge => by_cases q : x < y; · exact (tlt q).2.1.trans (own_nyes q).symm
             · exact (flt q).2.1.trans (own_nno q).symm
  case gt => by_cases q : y < x; · exact (tlt q).2.2.1.trans (own_yes q).symm
             · exact (flt q).2.2.1.trans (own_no q).symm
  case le => by_cases q : y < x; · exact (tlt q).2.2.2.trans (own_nyes q).symm
             · exact (flt q).2.2.2.trans (own_nno q).symm
  case eq => by_cases q : x = y; · exact (teq q).1.trans (own_yes q).symm
             · exact (feq q).1.trans (own_no q).symm
  case ne => by_cases q : x = y; · exact (teq q).2.trans (own_nyes q).symm
             · exact (feq q).2.trans (own_nno q).symm
theorem own_i0 (cd : ClassFile.Cond) (x : Int32) : ifCond.holds cd x = own_c32 cd x 0 := (if0 cd x).trans (own_i2 cd x 0)
theorem own_l0 (cd : ClassFile.Cond) (x y : Int64) : ifCond.holds cd (lcmpW x y) = own_c64 cd x y := by
  rw [own_i0]
  have q1 := lw_lt x y
  have q2 := lw_gt x y
  have q3 := lw_eq x y
  cases cd <;> simp only [own_c32, own_c64, q1, q2, q3]
theorem own_ldI {a : Addr} {k : ClassId} {z j : Int32} {vs : List Value} {dv : Value} (F : Arv Z h a k .int z vs dv) (q : ¬ j < 0 ∧ j < z) : ∃ (cl : Cell) (v : Int32), Arr Z h a cl .int ∧ ¬ (j < 0 ∨ cl.slots.size ≤ j.toNatClampNeg) ∧ cl.slots[j.toNatClampNeg]? = some (.int v) := by
  obtain ⟨cl, A, -, S, M, H, G⟩ := F
  have hin := inb_of S q
  have hlt : j.toNatClampNeg < cl.slots.size := Nat.lt_of_not_le fun y => hin (Or.inr y)
  obtain ⟨v, hv⟩ := fit_I (G _ hlt) (Or.inl rfl)
  exact ⟨cl, v, A, hin, by rw [H _ hlt, hv]⟩
theorem own_len {a : Addr} {k : ClassId} {ty : FieldType} {z : Int32} {vs : List Value} {dv : Value} (F : Arv Z h a k ty z vs dv) : ∃ cl : Cell, Arr Z h a cl ty ∧ cl.slots.size = z.toNatClampNeg ∧ ¬ z < 0 := by
  obtain ⟨cl, A, -, S, M, -, -⟩ := F
  exact ⟨cl, A, S, M⟩
theorem own_at {a : Addr} {k : ClassId} {ty : FieldType} {z j : Int32} {vs : List Value} {dv : Value} (F : Arv Z h a k ty z vs dv) (q : ¬ j < 0 ∧ j < z) {i : Nat} (hj : j.toNatClampNeg = i) {v : Value} (hv : vs.getD i dv = v) : ∃ cl : Cell, Arr Z h a cl ty ∧ ¬ (j < 0 ∨ cl.slots.size ≤ j.toNatClampNeg) ∧ cl.slots[j.toNatClampNeg]? = some v := by
  obtain ⟨cl, A, -, S, M, H, -⟩ := F
  have hin := inb_of S q
  have hlt : j.toNatClampNeg < cl.slots.size := Nat.lt_of_not_le fun y => hin (Or.inr y)
  refine ⟨cl, A, hin, ?_⟩
  rw [H _ hlt, hj, hv]
end OwnKit

theorem pd_0 : parseMethodDescriptor "(JJ)V" = some ⟨[.long, .long], none⟩ := by decide +kernel
theorem pd_1 : parseMethodDescriptor "()V" = some ⟨[], none⟩ := by decide +kernel
theorem pd_2 : parseMethodDescriptor "(Lcom/example/rootward/rootward/log/LogPosition;I)V" = some ⟨[(.object "com/example/rootward/rootward/log/LogPosition"), .int], none⟩ := by decide +kernel
theorem pd_3 : parseMethodDescriptor "(Lcom/example/rootward/rootward/log/LogPosition;ILcom/example/rootward/rootward/store/Logged;)V" = some ⟨[(.object "com/example/rootward/rootward/log/LogPosition"), .int, (.object "com/example/rootward/rootward/store/Logged")], none⟩ := by decide +kernel
theorem pd_4 : parseMethodDescriptor "()Lcom/example/rootward/rootward/store/Logged;" = some ⟨[], some (.object "com/example/rootward/rootward/store/Logged")⟩ := by decide +kernel
theorem d2_0 : decode jdk_30_method_1_code 0 = .ok (.aload_n 0, 1) := by decide +kernel
theorem d2_1 : decode jdk_30_method_1_code 1 = .ok (.invokespecial 1, 3) := by decide +kernel
theorem d2_4 : decode jdk_30_method_1_code 4 = .ok (.return_, 1) := by decide +kernel
theorem pn_2 : plainFor (⟨"java/lang/Record", "<init>", "()V"⟩ : MethodName) = true := plainFor_of_name (by first | (simp [plainName, overriddenIn]; done) | decide +kernel)
theorem ef_2 (m : MethodId) (x0 : Addr) : entryFrame m #[(.ref x0)] 1 = mkF m 0 #[.val (.ref x0)] [] := by first | (simp [entryFrame, mkF, argsToLocals, Value.category]; done) | rfl
set_option maxRecDepth 65536 in
set_option maxHeartbeats 40000000 in
theorem rm2 (l : Launch) (Z : State) (tA : Array Value) (hw : ∀ d ∈ tables_1, d.before tA Z = true) (a0 : Addr) (h0 : Heap) :
    own_Met l Z (⟨"java/lang/Record", "<init>", "()V"⟩ : MethodName) jdk_30_method_1_code 1 none ({ frames := 1, cells := 0, slots := 0, locals := 12 } : Room) #[(.ref a0)] h0 (own_P none h0) := by
  refine own_body pn_2 ?_
  intro p e s m below meth c s₁ X0 hx hZ hby hml hown hret hlk hnm e0
  rw [ef_2]
  show own_Go p e below _ (s₁.setTop (mkF m 0 #[.val (.ref a0)] []))
  refine own_st (fun _ k => XS.aloadN X0.here hx rfl (hb hby d2_0) rfl rfl k) ?_
  show own_Go p e below _ (s₁.setTop (mkF m 1 #[.val (.ref a0)] [(.ref a0)]))
  obtain ⟨T1, X1, e1, st1⟩ := initO X0 hx hZ hown (hw _ (List.mem_of_getElem? (i := 11) rfl)) (hw _ (List.mem_of_getElem? (i := 12) rfl)) (hw _ (List.mem_of_getElem? (i := 13) rfl)) e0 (g := (mkF m 1 #[.val (.ref a0)] [(.ref a0)])) rfl (by rw [hml]; rfl) rfl (hb hby d2_1) (by decide) (W := 0) (by show 2 * 0 + _ ≤ _; exact Nat.le_of_eq rfl) (by decide)
  refine own_st st1 ?_
  show own_Go p e below _ (T1.setTop (mkF m 4 #[.val (.ref a0)] []))
  exact own_retV X1 hx hlk hret (hb hby d2_4) ⟨rfl, rfl, e1⟩ (by decide) (by decide)
theorem d1_0 : decode prog_23_method_1_code 0 = .ok (.aload_n 0, 1) := by decide +kernel
theorem d1_1 : decode prog_23_method_1_code 1 = .ok (.invokespecial 1, 3) := by decide +kernel
theorem d1_4 : decode prog_23_method_1_code 4 = .ok (.aload_n 0, 1) := by decide +kernel
theorem d1_5 : decode prog_23_method_1_code 5 = .ok (.lload_n 1, 1) := by decide +kernel
theorem d1_6 : decode prog_23_method_1_code 6 = .ok (.putfield 7, 3) := by decide +kernel
theorem d1_9 : decode prog_23_method_1_code 9 = .ok (.aload_n 0, 1) := by decide +kernel
theorem d1_10 : decode prog_23_method_1_code 10 = .ok (.lload_n 3, 1) := by decide +kernel
theorem d1_11 : decode prog_23_method_1_code 11 = .ok (.putfield 13, 3) := by decide +kernel
theorem d1_14 : decode prog_23_method_1_code 14 = .ok (.return_, 1) := by decide +kernel
theorem pn_1 : plainFor (⟨"com/example/rootward/rootward/log/LogPosition", "<init>", "(JJ)V"⟩ : MethodName) = true := plainFor_of_name (by first | (simp [plainName, overriddenIn]; done) | decide +kernel)
theorem ef_1 (m : MethodId) (x0 : Addr) (x1 : Int64) (x2 : Int64) : entryFrame m #[(.ref x0), (.long x1), (.long x2)] 5 = mkF m 0 #[.val (.ref x0), .val (.long x1), .second, .val (.long x2), .second] [] := by first | (simp [entryFrame, mkF, argsToLocals, Value.category]; done) | rfl
set_option maxRecDepth 65536 in
set_option maxHeartbeats 40000000 in
theorem rm1 (l : Launch) (Z : State) (tA : Array Value) (hw : ∀ d ∈ tables_1, d.before tA Z = true) (a0 : Addr) (q1 : Int64) (q2 : Int64) (h0 : Heap) (n0 : Nat) (g_a0 : n0 ≤ a0) (E0 : Exa Z h0 a0 "com/example/rootward/rootward/log/LogPosition") (F0 : Fld Z h0 a0 "com/example/rootward/rootward/log/LogPosition" "file" "J" (.long (0 : Int64))) (F1 : Fld Z h0 a0 "com/example/rootward/rootward/log/LogPosition" "offset" "J" (.long (0 : Int64))) :
    own_Met l Z (⟨"com/example/rootward/rootward/log/LogPosition", "<init>", "(JJ)V"⟩ : MethodName) prog_23_method_1_code 5 none ({ frames := 2, cells := 0, slots := 0, locals := 24 } : Room) #[(.ref a0), (.long q1), (.long q2)] h0 (fun v h L => v = none ∧ Fr n0 L ∧ Keep h0 h [a0] ∧ Fld Z h a0 "com/example/rootward/rootward/log/LogPosition" "file" "J" (.long q1) ∧ Fld Z h a0 "com/example/rootward/rootward/log/LogPosition" "offset" "J" (.long q2)) := by
  refine own_body pn_1 ?_
  intro p e s m below meth c s₁ X0 hx hZ hby hml hown hret hlk hnm e0
  have N0 := Fr.nil n0
  have K0 := Keep.refl h0 [a0]
  rw [ef_1]
  show own_Go p e below _ (s₁.setTop (mkF m 0 #[.val (.ref a0), .val (.long q1), .second, .val (.long q2), .second] []))
  refine own_st (fun _ k => XS.aloadN X0.here hx rfl (hb hby d1_0) rfl rfl k) ?_
  show own_Go p e below _ (s₁.setTop (mkF m 1 #[.val (.ref a0), .val (.long q1), .second, .val (.long q2), .second] [(.ref a0)]))
  obtain ⟨_, T1, _, X1, ⟨rfl, rfl, e1⟩, st1⟩ := own_callI X0 hx hZ (y := (⟨"java/lang/Record", "<init>", "()V"⟩ : MethodName)) (a := a0) (argsL := []) (rest := []) (W := 0) (g := (mkF m 1 #[.val (.ref a0), .val (.long q1), .second, .val (.long q2), .second] [(.ref a0)])) (rm2 l Z tA hw a0 h0) rfl hown (hw _ (List.mem_of_getElem? (i := 6) rfl)) (hw _ (List.mem_of_getElem? (i := 7) rfl)) (hw _ (List.mem_of_getElem? (i := 9) rfl)) (hw _ (List.mem_of_getElem? (i := 10) rfl)) (by decide) e0 rfl (by rw [hml]; rfl) pd_1 rfl rfl (by show 2 * 0 + _ ≤ _; exact Nat.le_of_eq rfl) (hb hby d1_1) (by decide) (by decide) (by decide) (by decide)
  replace X1 := own_flat X1
  refine own_st st1 ?_
  show own_Go p e below _ (T1.setTop (mkF m 4 #[.val (.ref a0), .val (.long q1), .second, .val (.long q2), .second] []))
  refine own_st (fun _ k => XS.aloadN X1.here hx rfl (hb hby d1_4) rfl rfl k) ?_
  show own_Go p e below _ (T1.setTop (mkF m 5 #[.val (.ref a0), .val (.long q1), .second, .val (.long q2), .second] [(.ref a0)]))
  refine own_st (fun _ k => XS.lloadN X1.here hx rfl (hb hby d1_5) rfl k) ?_
  show own_Go p e below _ (T1.setTop (mkF m 6 #[.val (.ref a0), .val (.long q1), .second, .val (.long q2), .second] [(.long q1), (.ref a0)]))
  obtain ⟨T2, h2, X2, e2, W2, st2⟩ := putF X1 hx hZ hown (host := "") (Or.inl (hw _ (List.mem_of_getElem? (i := 14) rfl))) Via.refl e1 F0 E0 (Or.inr ⟨(hw _ (List.mem_of_getElem? (i := 15) rfl)), rfl, hnm⟩) (hw _ (List.mem_of_getElem? (i := 1) rfl)) (ty := .long) (by decide) rfl rfl (g := (mkF m 6 #[.val (.ref a0), .val (.long q1), .second, .val (.long q2), .second] [(.long q1), (.ref a0)])) rfl rfl (hb hby d1_6)
  refine own_st st2 ?_
  replace E0 := E0.wr W2
  replace F1 := F1.other W2 (Or.inr (slot_ne (Or.inr (hw _ (List.mem_of_getElem? (i := 17) rfl))) (Or.inr (hw _ (List.mem_of_getElem? (i := 15) rfl))) (by decide) (t := .long) (t' := .long) (by decide) (by decide)))
  replace K0 := K0.wr W2 (Or.inl (by simp))
  replace N0 := Fr.snoc X2 N0 g_a0
  replace F0 := F0.same W2
  show own_Go p e below _ (T2.setTop (mkF m 9 #[.val (.ref a0), .val (.long q1), .second, .val (.long q2), .second] []))
  refine own_st (fun _ k => XS.aloadN X2.here hx rfl (hb hby d1_9) rfl rfl k) ?_
  show own_Go p e below _ (T2.setTop (mkF m 10 #[.val (.ref a0), .val (.long q1), .second, .val (.long q2), .second] [(.ref a0)]))
  refine own_st (fun _ k => XS.lloadN X2.here hx rfl (hb hby d1_10) rfl k) ?_
  show own_Go p e below _ (T2.setTop (mkF m 11 #[.val (.ref a0), .val (.long q1), .second, .val (.long q2), .second] [(.long q2), (.ref a0)]))
  obtain ⟨T3, h3, X3, e3, W3, st3⟩ := putF X2 hx hZ hown (host := "") (Or.inl (hw _ (List.mem_of_getElem? (i := 16) rfl))) Via.refl e2 F1 E0 (Or.inr ⟨(hw _ (List.mem_of_getElem? (i := 17) rfl)), rfl, hnm⟩) (hw _ (List.mem_of_getElem? (i := 1) rfl)) (ty := .long) (by decide) rfl rfl (g := (mkF m 11 #[.val (.ref a0), .val (.long q1), .second, .val (.long q2), .second] [(.long q2), (.ref a0)])) rfl rfl (hb hby d1_11)
  refine own_st st3 ?_
  replace E0 := E0.wr W3
  replace F0 := F0.other W3 (Or.inr (slot_ne (Or.inr (hw _ (List.mem_of_getElem? (i := 15) rfl))) (Or.inr (hw _ (List.mem_of_getElem? (i := 17) rfl))) (by decide) (t := .long) (t' := .long) (by decide) (by decide)))
  replace K0 := K0.wr W3 (Or.inl (by simp))
  replace N0 := Fr.snoc X3 N0 g_a0
  replace F1 := F1.same W3
  show own_Go p e below _ (T3.setTop (mkF m 14 #[.val (.ref a0), .val (.long q1), .second, .val (.long q2), .second] []))
  exact own_retV X3 hx hlk hret (hb hby d1_14) ⟨rfl, N0, by rw [e3]; exact ⟨K0, F0, F1⟩⟩ (by decide) (by decide)
theorem d5_0 : decode prog_49_method_2_code 0 = .ok (.aload_n 0, 1) := by decide +kernel
theorem d5_1 : decode prog_49_method_2_code 1 = .ok (.invokespecial 1, 3) := by decide +kernel
theorem d5_4 : decode prog_49_method_2_code 4 = .ok (.aload_n 0, 1) := by decide +kernel
theorem d5_5 : decode prog_49_method_2_code 5 = .ok (.aload_n 1, 1) := by decide +kernel
theorem d5_6 : decode prog_49_method_2_code 6 = .ok (.putfield 7, 3) := by decide +kernel
theorem d5_9 : decode prog_49_method_2_code 9 = .ok (.aload_n 0, 1) := by decide +kernel
theorem d5_10 : decode prog_49_method_2_code 10 = .ok (.iload_n 2, 1) := by decide +kernel
theorem d5_11 : decode prog_49_method_2_code 11 = .ok (.putfield 13, 3) := by decide +kernel
theorem d5_14 : decode prog_49_method_2_code 14 = .ok (.aload_n 0, 1) := by decide +kernel
theorem d5_15 : decode prog_49_method_2_code 15 = .ok (.aload_n 3, 1) := by decide +kernel
theorem d5_16 : decode prog_49_method_2_code 16 = .ok (.putfield 17, 3) := by decide +kernel
theorem d5_19 : decode prog_49_method_2_code 19 = .ok (.return_, 1) := by decide +kernel
theorem pn_5 : plainFor (⟨"com/example/rootward/rootward/store/Logged", "<init>", "(Lcom/example/rootward/rootward/log/LogPosition;ILcom/example/rootward/rootward/store/Logged;)V"⟩ : MethodName) = true := plainFor_of_name (by first | (simp [plainName, overriddenIn]; done) | decide +kernel)
theorem ef_rmN (m : MethodId) (x0 : Addr) (x1 : Addr) (x2 : Int32) : entryFrame m #[(.ref x0), (.ref x1), (.int x2), .null] 4 = mkF m 0 #[.val (.ref x0), .val (.ref x1), .val (.int x2), .val .null] [] := by first | (simp [entryFrame, mkF, argsToLocals, Value.category]; done) | rfl
set_option maxRecDepth 65536 in
set_option maxHeartbeats 40000000 in
theorem rmN (l : Launch) (Z : State) (tA : Array Value) (hw : ∀ d ∈ tables_1, d.before tA Z = true) (a0 : Addr) (a1 : Addr) (p2 : Int32) (h0 : Heap) (n0 : Nat) (g_a0 : n0 ≤ a0) (E0 : Exa Z h0 a0 "com/example/rootward/rootward/store/Logged") (F0 : Fld Z h0 a0 "com/example/rootward/rootward/store/Logged" "position" "Lcom/example/rootward/rootward/log/LogPosition;" .null) (F1 : Fld Z h0 a0 "com/example/rootward/rootward/store/Logged" "length" "I" (.int (0 : Int32))) (F2 : Fld Z h0 a0 "com/example/rootward/rootward/store/Logged" "whole" "Lcom/example/rootward/rootward/store/Logged;" .null) :
    own_Met l Z (⟨"com/example/rootward/rootward/store/Logged", "<init>", "(Lcom/example/rootward/rootward/log/LogPosition;ILcom/example/rootward/rootward/store/Logged;)V"⟩ : MethodName) prog_49_method_2_code 4 none ({ frames := 2, cells := 0, slots := 0, locals := 24 } : Room) #[(.ref a0), (.ref a1), (.int p2), .null] h0 (fun v h L => v = none ∧ Fr n0 L ∧ Keep h0 h [a0] ∧ Fld Z h a0 "com/example/rootward/rootward/store/Logged" "position" "Lcom/example/rootward/rootward/log/LogPosition;" (.ref a1) ∧ Fld Z h a0 "com/example/rootward/rootward/store/Logged" "length" "I" (.int p2) ∧ Fld Z h a0 "com/example/rootward/rootward/store/Logged" "whole" "Lcom/example/rootward/rootward/store/Logged;" .null) := by
  refine own_body pn_5 ?_
  intro p e s m below meth c s₁ X0 hx hZ hby hml hown hret hlk hnm e0
  have N0 := Fr.nil n0
  have K0 := Keep.refl h0 [a0]
  rw [ef_rmN]
  show own_Go p e below _ (s₁.setTop (mkF m 0 #[.val (.ref a0), .val (.ref a1), .val (.int p2), .val .null] []))
  refine own_st (fun _ k => XS.aloadN X0.here hx rfl (hb hby d5_0) rfl rfl k) ?_
  show own_Go p e below _ (s₁.setTop (mkF m 1 #[.val (.ref a0), .val (.ref a1), .val (.int p2), .val .null] [(.ref a0)]))
  obtain ⟨_, T1, _, X1, ⟨rfl, rfl, e1⟩, st1⟩ := own_callI X0 hx hZ (y := (⟨"java/lang/Record", "<init>", "()V"⟩ : MethodName)) (a := a0) (argsL := []) (rest := []) (W := 0) (g := (mkF m 1 #[.val (.ref a0), .val (.ref a1), .val (.int p2), .val .null] [(.ref a0)])) (rm2 l Z tA hw a0 h0) rfl hown (hw _ (List.mem_of_getElem? (i := 27) rfl)) (hw _ (List.mem_of_getElem? (i := 7) rfl)) (hw _ (List.mem_of_getElem? (i := 9) rfl)) (hw _ (List.mem_of_getElem? (i := 10) rfl)) (by decide) e0 rfl (by rw [hml]; rfl) pd_1 rfl rfl (by show 2 * 0 + _ ≤ _; exact Nat.le_of_eq rfl) (hb hby d5_1) (by decide) (by decide) (by decide) (by decide)
  replace X1 := own_flat X1
  refine own_st st1 ?_
  show own_Go p e below _ (T1.setTop (mkF m 4 #[.val (.ref a0), .val (.ref a1), .val (.int p2), .val .null] []))
  refine own_st (fun _ k => XS.aloadN X1.here hx rfl (hb hby d5_4) rfl rfl k) ?_
  show own_Go p e below _ (T1.setTop (mkF m 5 #[.val (.ref a0), .val (.ref a1), .val (.int p2), .val .null] [(.ref a0)]))
  refine own_st (fun _ k => XS.aloadN X1.here hx rfl (hb hby d5_5) rfl rfl k) ?_
  show own_Go p e below _ (T1.setTop (mkF m 6 #[.val (.ref a0), .val (.ref a1), .val (.int p2), .val .null] [(.ref a1), (.ref a0)]))
  obtain ⟨T2, h2, X2, e2, W2, st2⟩ := putF X1 hx hZ hown (host := "") (Or.inl (hw _ (List.mem_of_getElem? (i := 28) rfl))) Via.refl e1 F0 E0 (Or.inr ⟨(hw _ (List.mem_of_getElem? (i := 29) rfl)), rfl, hnm⟩) (hw _ (List.mem_of_getElem? (i := 19) rfl)) (ty := (.object "com/example/rootward/rootward/log/LogPosition")) (by decide) rfl rfl (g := (mkF m 6 #[.val (.ref a0), .val (.ref a1), .val (.int p2), .val .null] [(.ref a1), (.ref a0)])) rfl rfl (hb hby d5_6)
  refine own_st st2 ?_
  replace E0 := E0.wr W2
  replace F1 := F1.other W2 (Or.inr (slot_ne (Or.inr (hw _ (List.mem_of_getElem? (i := 31) rfl))) (Or.inr (hw _ (List.mem_of_getElem? (i := 29) rfl))) (by decide) (t := .int) (t' := (.object "com/example/rootward/rootward/log/LogPosition")) (by decide) (by decide)))
  replace F2 := F2.other W2 (Or.inr (slot_ne (Or.inr (hw _ (List.mem_of_getElem? (i := 33) rfl))) (Or.inr (hw _ (List.mem_of_getElem? (i := 29) rfl))) (by decide) (t := (.object "com/example/rootward/rootward/store/Logged")) (t' := (.object "com/example/rootward/rootward/log/LogPosition")) (by decide) (by decide)))
  replace K0 := K0.wr W2 (Or.inl (by simp))
  replace N0 := Fr.snoc X2 N0 g_a0
  replace F0 := F0.same W2
  show own_Go p e below _ (T2.setTop (mkF m 9 #[.val (.ref a0), .val (.ref a1), .val (.int p2), .val .null] []))
  refine own_st (fun _ k => XS.aloadN X2.here hx rfl (hb hby d5_9) rfl rfl k) ?_
  show own_Go p e below _ (T2.setTop (mkF m 10 #[.val (.ref a0), .val (.ref a1), .val (.int p2), .val .null] [(.ref a0)]))
  refine own_st (fun _ k => XS.iloadN X2.here hx rfl (hb hby d5_10) rfl k) ?_
  show own_Go p e below _ (T2.setTop (mkF m 11 #[.val (.ref a0), .val (.ref a1), .val (.int p2), .val .null] [(.int p2), (.ref a0)]))
  obtain ⟨T3, h3, X3, e3, W3, st3⟩ := putF X2 hx hZ hown (host := "") (Or.inl (hw _ (List.mem_of_getElem? (i := 30) rfl))) Via.refl e2 F1 E0 (Or.inr ⟨(hw _ (List.mem_of_getElem? (i := 31) rfl)), rfl, hnm⟩) (hw _ (List.mem_of_getElem? (i := 19) rfl)) (ty := .int) (by decide) rfl rfl (g := (mkF m 11 #[.val (.ref a0), .val (.ref a1), .val (.int p2), .val .null] [(.int p2), (.ref a0)])) rfl rfl (hb hby d5_11)
  refine own_st st3 ?_
  replace E0 := E0.wr W3
  replace F0 := F0.other W3 (Or.inr (slot_ne (Or.inr (hw _ (List.mem_of_getElem? (i := 29) rfl))) (Or.inr (hw _ (List.mem_of_getElem? (i := 31) rfl))) (by decide) (t := (.object "com/example/rootward/rootward/log/LogPosition")) (t' := .int) (by decide) (by decide)))
  replace F2 := F2.other W3 (Or.inr (slot_ne (Or.inr (hw _ (List.mem_of_getElem? (i := 33) rfl))) (Or.inr (hw _ (List.mem_of_getElem? (i := 31) rfl))) (by decide) (t := (.object "com/example/rootward/rootward/store/Logged")) (t' := .int) (by decide) (by decide)))
  replace K0 := K0.wr W3 (Or.inl (by simp))
  replace N0 := Fr.snoc X3 N0 g_a0
  replace F1 := F1.same W3
  show own_Go p e below _ (T3.setTop (mkF m 14 #[.val (.ref a0), .val (.ref a1), .val (.int p2), .val .null] []))
  refine own_st (fun _ k => XS.aloadN X3.here hx rfl (hb hby d5_14) rfl rfl k) ?_
  show own_Go p e below _ (T3.setTop (mkF m 15 #[.val (.ref a0), .val (.ref a1), .val (.int p2), .val .null] [(.ref a0)]))
  refine own_st (fun _ k => XS.aloadN X3.here hx rfl (hb hby d5_15) rfl rfl k) ?_
  show own_Go p e below _ (T3.setTop (mkF m 16 #[.val (.ref a0), .val (.ref a1), .val (.int p2), .val .null] [.null, (.ref a0)]))
  obtain ⟨T4, h4, X4, e4, W4, st4⟩ := putF X3 hx hZ hown (host := "") (Or.inl (hw _ (List.mem_of_getElem? (i := 32) rfl))) Via.refl e3 F2 E0 (Or.inr ⟨(hw _ (List.mem_of_getElem? (i := 33) rfl)), rfl, hnm⟩) (hw _ (List.mem_of_getElem? (i := 19) rfl)) (ty := (.object "com/example/rootward/rootward/store/Logged")) (by decide) rfl rfl (g := (mkF m 16 #[.val (.ref a0), .val (.ref a1), .val (.int p2), .val .null] [.null, (.ref a0)])) rfl rfl (hb hby d5_16)
  refine own_st st4 ?_
  replace E0 := E0.wr W4
  replace F0 := F0.other W4 (Or.inr (slot_ne (Or.inr (hw _ (List.mem_of_getElem? (i := 29) rfl))) (Or.inr (hw _ (List.mem_of_getElem? (i := 33) rfl))) (by decide) (t := (.object "com/example/rootward/rootward/log/LogPosition")) (t' := (.object "com/example/rootward/rootward/store/Logged")) (by decide) (by decide)))
  replace F1 := F1.other W4 (Or.inr (slot_ne (Or.inr (hw _ (List.mem_of_getElem? (i := 31) rfl))) (Or.inr (hw _ (List.mem_of_getElem? (i := 33) rfl))) (by decide) (t := .int) (t' := (.object "com/example/rootward/rootward/store/Logged")) (by decide) (by decide)))
  replace K0 := K0.wr W4 (Or.inl (by simp))
  replace N0 := Fr.snoc X4 N0 g_a0
  replace F2 := F2.same W4
  show own_Go p e below _ (T4.setTop (mkF m 19 #[.val (.ref a0), .val (.ref a1), .val (.int p2), .val .null] []))
  exact own_retV X4 hx hlk hret (hb hby d5_19) ⟨rfl, N0, by rw [e4]; exact ⟨K0, F0, F1, F2⟩⟩ (by decide) (by decide)
theorem ef_rmR (m : MethodId) (x0 : Addr) (x1 : Addr) (x2 : Int32) (x3 : Addr) : entryFrame m #[(.ref x0), (.ref x1), (.int x2), (.ref x3)] 4 = mkF m 0 #[.val (.ref x0), .val (.ref x1), .val (.int x2), .val (.ref x3)] [] := by first | (simp [entryFrame, mkF, argsToLocals, Value.category]; done) | rfl
set_option maxRecDepth 65536 in
set_option maxHeartbeats 40000000 in
theorem rmR (l : Launch) (Z : State) (tA : Array Value) (hw : ∀ d ∈ tables_1, d.before tA Z = true) (a0 : Addr) (a1 : Addr) (p2 : Int32) (a3 : Addr) (h0 : Heap) (n0 : Nat) (g_a0 : n0 ≤ a0) (E0 : Exa Z h0 a0 "com/example/rootward/rootward/store/Logged") (F0 : Fld Z h0 a0 "com/example/rootward/rootward/store/Logged" "position" "Lcom/example/rootward/rootward/log/LogPosition;" .null) (F1 : Fld Z h0 a0 "com/example/rootward/rootward/store/Logged" "length" "I" (.int (0 : Int32))) (F2 : Fld Z h0 a0 "com/example/rootward/rootward/store/Logged" "whole" "Lcom/example/rootward/rootward/store/Logged;" .null) :
    own_Met l Z (⟨"com/example/rootward/rootward/store/Logged", "<init>", "(Lcom/example/rootward/rootward/log/LogPosition;ILcom/example/rootward/rootward/store/Logged;)V"⟩ : MethodName) prog_49_method_2_code 4 none ({ frames := 2, cells := 0, slots := 0, locals := 24 } : Room) #[(.ref a0), (.ref a1), (.int p2), (.ref a3)] h0 (fun v h L => v = none ∧ Fr n0 L ∧ Keep h0 h [a0] ∧ Fld Z h a0 "com/example/rootward/rootward/store/Logged" "position" "Lcom/example/rootward/rootward/log/LogPosition;" (.ref a1) ∧ Fld Z h a0 "com/example/rootward/rootward/store/Logged" "length" "I" (.int p2) ∧ Fld Z h a0 "com/example/rootward/rootward/store/Logged" "whole" "Lcom/example/rootward/rootward/store/Logged;" (.ref a3)) := by
  refine own_body pn_5 ?_
  intro p e s m below meth c s₁ X0 hx hZ hby hml hown hret hlk hnm e0
  have N0 := Fr.nil n0
  have K0 := Keep.refl h0 [a0]
  rw [ef_rmR]
  show own_Go p e below _ (s₁.setTop (mkF m 0 #[.val (.ref a0), .val (.ref a1), .val (.int p2), .val (.ref a3)] []))
  refine own_st (fun _ k => XS.aloadN X0.here hx rfl (hb hby d5_0) rfl rfl k) ?_
  show own_Go p e below _ (s₁.setTop (mkF m 1 #[.val (.ref a0), .val (.ref a1), .val (.int p2), .val (.ref a3)] [(.ref a0)]))
  obtain ⟨_, T1, _, X1, ⟨rfl, rfl, e1⟩, st1⟩ := own_callI X0 hx hZ (y := (⟨"java/lang/Record", "<init>", "()V"⟩ : MethodName)) (a := a0) (argsL := []) (rest := []) (W := 0) (g := (mkF m 1 #[.val (.ref a0), .val (.ref a1), .val (.int p2), .val (.ref a3)] [(.ref a0)])) (rm2 l Z tA hw a0 h0) rfl hown (hw _ (List.mem_of_getElem? (i := 27) rfl)) (hw _ (List.mem_of_getElem? (i := 7) rfl)) (hw _ (List.mem_of_getElem? (i := 9) rfl)) (hw _ (List.mem_of_getElem? (i := 10) rfl)) (by decide) e0 rfl (by rw [hml]; rfl) pd_1 rfl rfl (by show 2 * 0 + _ ≤ _; exact Nat.le_of_eq rfl) (hb hby d5_1) (by decide) (by decide) (by decide) (by decide)
  replace X1 := own_flat X1
  refine own_st st1 ?_
  show own_Go p e below _ (T1.setTop (mkF m 4 #[.val (.ref a0), .val (.ref a1), .val (.int p2), .val (.ref a3)] []))
  refine own_st (fun _ k => XS.aloadN X1.here hx rfl (hb hby d5_4) rfl rfl k) ?_
  show own_Go p e below _ (T1.setTop (mkF m 5 #[.val (.ref a0), .val (.ref a1), .val (.int p2), .val (.ref a3)] [(.ref a0)]))
  refine own_st (fun _ k => XS.aloadN X1.here hx rfl (hb hby d5_5) rfl rfl k) ?_
  show own_Go p e below _ (T1.setTop (mkF m 6 #[.val (.ref a0), .val (.ref a1), .val (.int p2), .val (.ref a3)] [(.ref a1), (.ref a0)]))
  obtain ⟨T2, h2, X2, e2, W2, st2⟩ := putF X1 hx hZ hown (host := "") (Or.inl (hw _ (List.mem_of_getElem? (i := 28) rfl))) Via.refl e1 F0 E0 (Or.inr ⟨(hw _ (List.mem_of_getElem? (i := 29) rfl)), rfl, hnm⟩) (hw _ (List.mem_of_getElem? (i := 19) rfl)) (ty := (.object "com/example/rootward/rootward/log/LogPosition")) (by decide) rfl rfl (g := (mkF m 6 #[.val (.ref a0), .val (.ref a1), .val (.int p2), .val (.ref a3)] [(.ref a1), (.ref a0)])) rfl rfl (hb hby d5_6)
  refine own_st st2 ?_
  replace E0 := E0.wr W2
  replace F1 := F1.other W2 (Or.inr (slot_ne (Or.inr (hw _ (List.mem_of_getElem? (i := 31) rfl))) (Or.inr (hw _ (List.mem_of_getElem? (i := 29) rfl))) (by decide) (t := .int) (t' := (.object "com/example/rootward/rootward/log/LogPosition")) (by decide) (by decide)))
  replace F2 := F2.other W2 (Or.inr (slot_ne (Or.inr (hw _ (List.mem_of_getElem? (i := 33) rfl))) (Or.inr (hw _ (List.mem_of_getElem? (i := 29) rfl))) (by decide) (t := (.object "com/example/rootward/rootward/store/Logged")) (t' := (.object "com/example/rootward/rootward/log/LogPosition")) (by decide) (by decide)))
  replace K0 := K0.wr W2 (Or.inl (by simp))
  replace N0 := Fr.snoc X2 N0 g_a0
  replace F0 := F0.same W2
  show own_Go p e below _ (T2.setTop (mkF m 9 #[.val (.ref a0), .val (.ref a1), .val (.int p2), .val (.ref a3)] []))
  refine own_st (fun _ k => XS.aloadN X2.here hx rfl (hb hby d5_9) rfl rfl k) ?_
  show own_Go p e below _ (T2.setTop (mkF m 10 #[.val (.ref a0), .val (.ref a1), .val (.int p2), .val (.ref a3)] [(.ref a0)]))
  refine own_st (fun _ k => XS.iloadN X2.here hx rfl (hb hby d5_10) rfl k) ?_
  show own_Go p e below _ (T2.setTop (mkF m 11 #[.val (.ref a0), .val (.ref a1), .val (.int p2), .val (.ref a3)] [(.int p2), (.ref a0)]))
  obtain ⟨T3, h3, X3, e3, W3, st3⟩ := putF X2 hx hZ hown (host := "") (Or.inl (hw _ (List.mem_of_getElem? (i := 30) rfl))) Via.refl e2 F1 E0 (Or.inr ⟨(hw _ (List.mem_of_getElem? (i := 31) rfl)), rfl, hnm⟩) (hw _ (List.mem_of_getElem? (i := 19) rfl)) (ty := .int) (by decide) rfl rfl (g := (mkF m 11 #[.val (.ref a0), .val (.ref a1), .val (.int p2), .val (.ref a3)] [(.int p2), (.ref a0)])) rfl rfl (hb hby d5_11)
  refine own_st st3 ?_
  replace E0 := E0.wr W3
  replace F0 := F0.other W3 (Or.inr (slot_ne (Or.inr (hw _ (List.mem_of_getElem? (i := 29) rfl))) (Or.inr (hw _ (List.mem_of_getElem? (i := 31) rfl))) (by decide) (t := (.object "com/example/rootward/rootward/log/LogPosition")) (t' := .int) (by decide) (by decide)))
  replace F2 := F2.other W3 (Or.inr (slot_ne (Or.inr (hw _ (List.mem_of_getElem? (i := 33) rfl))) (Or.inr (hw _ (List.mem_of_getElem? (i := 31) rfl))) (by decide) (t := (.object "com/example/rootward/rootward/store/Logged")) (t' := .int) (by decide) (by decide)))
  replace K0 := K0.wr W3 (Or.inl (by simp))
  replace N0 := Fr.snoc X3 N0 g_a0
  replace F1 := F1.same W3
  show own_Go p e below _ (T3.setTop (mkF m 14 #[.val (.ref a0), .val (.ref a1), .val (.int p2), .val (.ref a3)] []))
  refine own_st (fun _ k => XS.aloadN X3.here hx rfl (hb hby d5_14) rfl rfl k) ?_
  show own_Go p e below _ (T3.setTop (mkF m 15 #[.val (.ref a0), .val (.ref a1), .val (.int p2), .val (.ref a3)] [(.ref a0)]))
  refine own_st (fun _ k => XS.aloadN X3.here hx rfl (hb hby d5_15) rfl rfl k) ?_
  show own_Go p e below _ (T3.setTop (mkF m 16 #[.val (.ref a0), .val (.ref a1), .val (.int p2), .val (.ref a3)] [(.ref a3), (.ref a0)]))
  obtain ⟨T4, h4, X4, e4, W4, st4⟩ := putF X3 hx hZ hown (host := "") (Or.inl (hw _ (List.mem_of_getElem? (i := 32) rfl))) Via.refl e3 F2 E0 (Or.inr ⟨(hw _ (List.mem_of_getElem? (i := 33) rfl)), rfl, hnm⟩) (hw _ (List.mem_of_getElem? (i := 19) rfl)) (ty := (.object "com/example/rootward/rootward/store/Logged")) (by decide) rfl rfl (g := (mkF m 16 #[.val (.ref a0), .val (.ref a1), .val (.int p2), .val (.ref a3)] [(.ref a3), (.ref a0)])) rfl rfl (hb hby d5_16)
  refine own_st st4 ?_
  replace E0 := E0.wr W4
  replace F0 := F0.other W4 (Or.inr (slot_ne (Or.inr (hw _ (List.mem_of_getElem? (i := 29) rfl))) (Or.inr (hw _ (List.mem_of_getElem? (i := 33) rfl))) (by decide) (t := (.object "com/example/rootward/rootward/log/LogPosition")) (t' := (.object "com/example/rootward/rootward/store/Logged")) (by decide) (by decide)))
  replace F1 := F1.other W4 (Or.inr (slot_ne (Or.inr (hw _ (List.mem_of_getElem? (i := 31) rfl))) (Or.inr (hw _ (List.mem_of_getElem? (i := 33) rfl))) (by decide) (t := .int) (t' := (.object "com/example/rootward/rootward/store/Logged")) (by decide) (by decide)))
  replace K0 := K0.wr W4 (Or.inl (by simp))
  replace N0 := Fr.snoc X4 N0 g_a0
  replace F2 := F2.same W4
  show own_Go p e below _ (T4.setTop (mkF m 19 #[.val (.ref a0), .val (.ref a1), .val (.int p2), .val (.ref a3)] []))
  exact own_retV X4 hx hlk hret (hb hby d5_19) ⟨rfl, N0, by rw [e4]; exact ⟨K0, F0, F1, F2⟩⟩ (by decide) (by decide)
theorem d4_0 : decode prog_49_method_1_code 0 = .ok (.aload_n 0, 1) := by decide +kernel
theorem d4_1 : decode prog_49_method_1_code 1 = .ok (.aload_n 1, 1) := by decide +kernel
theorem d4_2 : decode prog_49_method_1_code 2 = .ok (.iload_n 2, 1) := by decide +kernel
theorem d4_3 : decode prog_49_method_1_code 3 = .ok (.aconst_null, 1) := by decide +kernel
theorem d4_4 : decode prog_49_method_1_code 4 = .ok (.invokespecial 21, 3) := by decide +kernel
theorem d4_7 : decode prog_49_method_1_code 7 = .ok (.return_, 1) := by decide +kernel
theorem pn_4 : plainFor (⟨"com/example/rootward/rootward/store/Logged", "<init>", "(Lcom/example/rootward/rootward/log/LogPosition;I)V"⟩ : MethodName) = true := plainFor_of_name (by first | (simp [plainName, overriddenIn]; done) | decide +kernel)
theorem ef_4 (m : MethodId) (x0 : Addr) (x1 : Addr) (x2 : Int32) : entryFrame m #[(.ref x0), (.ref x1), (.int x2)] 3 = mkF m 0 #[.val (.ref x0), .val (.ref x1), .val (.int x2)] [] := by first | (simp [entryFrame, mkF, argsToLocals, Value.category]; done) | rfl
set_option maxRecDepth 65536 in
set_option maxHeartbeats 40000000 in
theorem rm4 (l : Launch) (Z : State) (tA : Array Value) (hw : ∀ d ∈ tables_1, d.before tA Z = true) (a0 : Addr) (a1 : Addr) (p2 : Int32) (h0 : Heap) (n0 : Nat) (g_a0 : n0 ≤ a0) (E0 : Exa Z h0 a0 "com/example/rootward/rootward/store/Logged") (F0 : Fld Z h0 a0 "com/example/rootward/rootward/store/Logged" "position" "Lcom/example/rootward/rootward/log/LogPosition;" .null) (F1 : Fld Z h0 a0 "com/example/rootward/rootward/store/Logged" "length" "I" (.int (0 : Int32))) (F2 : Fld Z h0 a0 "com/example/rootward/rootward/store/Logged" "whole" "Lcom/example/rootward/rootward/store/Logged;" .null) :
    own_Met l Z (⟨"com/example/rootward/rootward/store/Logged", "<init>", "(Lcom/example/rootward/rootward/log/LogPosition;I)V"⟩ : MethodName) prog_49_method_1_code 3 none ({ frames := 3, cells := 0, slots := 0, locals := 39 } : Room) #[(.ref a0), (.ref a1), (.int p2)] h0 (fun v h L => v = none ∧ Fr n0 L ∧ Keep h0 h [a0] ∧ Fld Z h a0 "com/example/rootward/rootward/store/Logged" "position" "Lcom/example/rootward/rootward/log/LogPosition;" (.ref a1) ∧ Fld Z h a0 "com/example/rootward/rootward/store/Logged" "length" "I" (.int p2) ∧ Fld Z h a0 "com/example/rootward/rootward/store/Logged" "whole" "Lcom/example/rootward/rootward/store/Logged;" .null) := by
  refine own_body pn_4 ?_
  intro p e s m below meth c s₁ X0 hx hZ hby hml hown hret hlk hnm e0
  have N0 := Fr.nil n0
  have K0 := Keep.refl h0 [a0]
  rw [ef_4]
  show own_Go p e below _ (s₁.setTop (mkF m 0 #[.val (.ref a0), .val (.ref a1), .val (.int p2)] []))
  refine own_st (fun _ k => XS.aloadN X0.here hx rfl (hb hby d4_0) rfl rfl k) ?_
  show own_Go p e below _ (s₁.setTop (mkF m 1 #[.val (.ref a0), .val (.ref a1), .val (.int p2)] [(.ref a0)]))
  refine own_st (fun _ k => XS.aloadN X0.here hx rfl (hb hby d4_1) rfl rfl k) ?_
  show own_Go p e below _ (s₁.setTop (mkF m 2 #[.val (.ref a0), .val (.ref a1), .val (.int p2)] [(.ref a1), (.ref a0)]))
  refine own_st (fun _ k => XS.iloadN X0.here hx rfl (hb hby d4_2) rfl k) ?_
  show own_Go p e below _ (s₁.setTop (mkF m 3 #[.val (.ref a0), .val (.ref a1), .val (.int p2)] [(.int p2), (.ref a1), (.ref a0)]))
  refine own_st (fun _ k => XS.aconstNull X0.here hx rfl (hb hby d4_3) k) ?_
  show own_Go p e below _ (s₁.setTop (mkF m 4 #[.val (.ref a0), .val (.ref a1), .val (.int p2)] [.null, (.int p2), (.ref a1), (.ref a0)]))
  obtain ⟨_, T1, L1, X1, hQ1, st1⟩ := own_callI X0 hx hZ (y := (⟨"com/example/rootward/rootward/store/Logged", "<init>", "(Lcom/example/rootward/rootward/log/LogPosition;ILcom/example/rootward/rootward/store/Logged;)V"⟩ : MethodName)) (a := a0) (argsL := [(.ref a1), (.int p2), .null]) (rest := []) (W := 0) (g := (mkF m 4 #[.val (.ref a0), .val (.ref a1), .val (.int p2)] [.null, (.int p2), (.ref a1), (.ref a0)])) (rmN l Z tA hw a0 a1 p2 h0 n0 g_a0 E0 F0 F1 F2) rfl hown (hw _ (List.mem_of_getElem? (i := 24) rfl)) (hw _ (List.mem_of_getElem? (i := 25) rfl)) (hw _ (List.mem_of_getElem? (i := 20) rfl)) (hw _ (List.mem_of_getElem? (i := 26) rfl)) (by decide) e0 rfl (by rw [hml]; rfl) pd_3 rfl rfl (by show 2 * 0 + _ ≤ _; exact Nat.le_of_eq rfl) (hb hby d4_4) (by decide) (by decide) (by decide) (by decide)
  obtain ⟨h1, e1⟩ : ∃ z, T1.heap = z := ⟨_, rfl⟩
  rw [e1] at hQ1
  obtain ⟨rfl, Nq1, Kq1, Fq1_0, Fq1_1, Fq1_2⟩ := hQ1
  replace E0 := E0.keep Kq1
  replace K0 := K0.trans Kq1 (allS (Or.inl (by simp)) (all0))
  replace N0 := Fr.app N0 Nq1
  refine own_st st1 ?_
  show own_Go p e below _ (T1.setTop (mkF m 7 #[.val (.ref a0), .val (.ref a1), .val (.int p2)] []))
  exact own_retV X1 hx hlk hret (hb hby d4_7) ⟨rfl, N0, by rw [e1]; exact ⟨K0, Fq1_0, Fq1_1, Fq1_2⟩⟩ (by decide) (by decide)
theorem d6_0 : decode prog_49_method_3_code 0 = .ok (.aload_n 0, 1) := by decide +kernel
theorem d6_1 : decode prog_49_method_3_code 1 = .ok (.getfield 17, 3) := by decide +kernel
theorem d6_4 : decode prog_49_method_3_code 4 = .ok (.ifnonnull 7, 3) := by decide +kernel
theorem d6_7 : decode prog_49_method_3_code 7 = .ok (.aload_n 0, 1) := by decide +kernel
theorem d6_8 : decode prog_49_method_3_code 8 = .ok (.goto 7, 3) := by decide +kernel
theorem d6_11 : decode prog_49_method_3_code 11 = .ok (.aload_n 0, 1) := by decide +kernel
theorem d6_12 : decode prog_49_method_3_code 12 = .ok (.getfield 17, 3) := by decide +kernel
theorem d6_15 : decode prog_49_method_3_code 15 = .ok (.areturn, 1) := by decide +kernel
theorem pn_6 : plainFor (⟨"com/example/rootward/rootward/store/Logged", "wholeEntry", "()Lcom/example/rootward/rootward/store/Logged;"⟩ : MethodName) = true := plainFor_of_name (by first | (simp [plainName, overriddenIn]; done) | decide +kernel)
theorem ef_rmW0 (m : MethodId) (x0 : Addr) : entryFrame m #[(.ref x0)] 1 = mkF m 0 #[.val (.ref x0)] [] := by first | (simp [entryFrame, mkF, argsToLocals, Value.category]; done) | rfl
set_option maxRecDepth 65536 in
set_option maxHeartbeats 40000000 in
theorem rmW0 (l : Launch) (Z : State) (tA : Array Value) (hw : ∀ d ∈ tables_1, d.before tA Z = true) (a0 : Addr) (h0 : Heap) (F0 : Fld Z h0 a0 "com/example/rootward/rootward/store/Logged" "whole" "Lcom/example/rootward/rootward/store/Logged;" .null) :
    own_Met l Z (⟨"com/example/rootward/rootward/store/Logged", "wholeEntry", "()Lcom/example/rootward/rootward/store/Logged;"⟩ : MethodName) prog_49_method_3_code 1 (some (.object "com/example/rootward/rootward/store/Logged")) ({ frames := 0, cells := 0, slots := 0, locals := 0 } : Room) #[(.ref a0)] h0 (own_P (some (.ref a0)) h0) := by
  refine own_body pn_6 ?_
  intro p e s m below meth c s₁ X0 hx hZ hby hml hown hret hlk hnm e0
  rw [ef_rmW0]
  show own_Go p e below _ (s₁.setTop (mkF m 0 #[.val (.ref a0)] []))
  refine own_st (fun _ k => XS.aloadN X0.here hx rfl (hb hby d6_0) rfl rfl k) ?_
  show own_Go p e below _ (s₁.setTop (mkF m 1 #[.val (.ref a0)] [(.ref a0)]))
  obtain ⟨T1, X1, e1, st1⟩ := getF X0 hx hZ hown (host := "") (Or.inl (hw _ (List.mem_of_getElem? (i := 32) rfl))) Via.refl e0 F0 (g := (mkF m 1 #[.val (.ref a0)] [(.ref a0)])) rfl rfl (hb hby d6_1)
  refine own_st st1 ?_
  show own_Go p e below _ (T1.setTop (mkF m 4 #[.val (.ref a0)] [.null]))
  refine own_st (fun _ k => XS.ifnonnullNo X1.here hx rfl (hb hby d6_4) rfl k) ?_
  show own_Go p e below _ (T1.setTop (mkF m 7 #[.val (.ref a0)] []))
  refine own_st (fun _ k => XS.aloadN X1.here hx rfl (hb hby d6_7) rfl rfl k) ?_
  show own_Go p e below _ (T1.setTop (mkF m 8 #[.val (.ref a0)] [(.ref a0)]))
  refine own_st (fun _ k => XS.goto X1.here hx rfl (pc0 := 8) (pc' := 15) rfl (hb hby d6_8) (by decide) (by decide) k) ?_
  show own_Go p e below _ (T1.setTop (mkF m 15 #[.val (.ref a0)] [(.ref a0)]))
  exact own_retA X1 hx hlk hret rfl rfl (hb hby d6_15) ⟨rfl, rfl, e1⟩ (by decide) (by decide)
theorem ef_rmW1 (m : MethodId) (x0 : Addr) : entryFrame m #[(.ref x0)] 1 = mkF m 0 #[.val (.ref x0)] [] := by first | (simp [entryFrame, mkF, argsToLocals, Value.category]; done) | rfl
set_option maxRecDepth 65536 in
set_option maxHeartbeats 40000000 in
theorem rmW1 (l : Launch) (Z : State) (tA : Array Value) (hw : ∀ d ∈ tables_1, d.before tA Z = true) (a0 : Addr) (w1 : Addr) (h0 : Heap) (F0 : Fld Z h0 a0 "com/example/rootward/rootward/store/Logged" "whole" "Lcom/example/rootward/rootward/store/Logged;" (.ref w1)) :
    own_Met l Z (⟨"com/example/rootward/rootward/store/Logged", "wholeEntry", "()Lcom/example/rootward/rootward/store/Logged;"⟩ : MethodName) prog_49_method_3_code 1 (some (.object "com/example/rootward/rootward/store/Logged")) ({ frames := 0, cells := 0, slots := 0, locals := 0 } : Room) #[(.ref a0)] h0 (own_P (some (.ref w1)) h0) := by
  refine own_body pn_6 ?_
  intro p e s m below meth c s₁ X0 hx hZ hby hml hown hret hlk hnm e0
  rw [ef_rmW1]
  show own_Go p e below _ (s₁.setTop (mkF m 0 #[.val (.ref a0)] []))
  refine own_st (fun _ k => XS.aloadN X0.here hx rfl (hb hby d6_0) rfl rfl k) ?_
  show own_Go p e below _ (s₁.setTop (mkF m 1 #[.val (.ref a0)] [(.ref a0)]))
  obtain ⟨T1, X1, e1, st1⟩ := getF X0 hx hZ hown (host := "") (Or.inl (hw _ (List.mem_of_getElem? (i := 32) rfl))) Via.refl e0 F0 (g := (mkF m 1 #[.val (.ref a0)] [(.ref a0)])) rfl rfl (hb hby d6_1)
  refine own_st st1 ?_
  show own_Go p e below _ (T1.setTop (mkF m 4 #[.val (.ref a0)] [(.ref w1)]))
  refine own_st (fun _ k => XS.ifnonnullYes X1.here hx rfl (pc0 := 4) (pc' := 11) rfl (hb hby d6_4) rfl (by decide) (by decide) k) ?_
  show own_Go p e below _ (T1.setTop (mkF m 11 #[.val (.ref a0)] []))
  refine own_st (fun _ k => XS.aloadN X1.here hx rfl (hb hby d6_11) rfl rfl k) ?_
  show own_Go p e below _ (T1.setTop (mkF m 12 #[.val (.ref a0)] [(.ref a0)]))
  obtain ⟨T2, X2, e2, st2⟩ := getF X1 hx hZ hown (host := "") (Or.inl (hw _ (List.mem_of_getElem? (i := 32) rfl))) Via.refl e1 F0 (g := (mkF m 12 #[.val (.ref a0)] [(.ref a0)])) rfl rfl (hb hby d6_12)
  refine own_st st2 ?_
  show own_Go p e below _ (T2.setTop (mkF m 15 #[.val (.ref a0)] [(.ref w1)]))
  exact own_retA X2 hx hlk hret rfl rfl (hb hby d6_15) ⟨rfl, rfl, e2⟩ (by decide) (by decide)
theorem pn_0 : plainFor (⟨"com/example/rootward/rootward/store/LoggedWholeEntryPinLaw", "law", "(JJIJJI)Z"⟩ : MethodName) = true := plainFor_of_name (by first | (simp [plainName, overriddenIn]; done) | decide +kernel)
theorem ef_0 (m : MethodId) (x0 : Int64) (x1 : Int64) (x2 : Int32) (x3 : Int64) (x4 : Int64) (x5 : Int32) : entryFrame m #[(.long x0), (.long x1), (.int x2), (.long x3), (.long x4), (.int x5)] maxLocals = mkF m 0 #[.val (.long x0), .second, .val (.long x1), .second, .val (.int x2), .val (.long x3), .second, .val (.long x4), .second, .val (.int x5), .unset, .unset, .unset, .unset, .unset, .unset] [] := by first | (simp [entryFrame, mkF, argsToLocals, Value.category, maxLocals]; done) | rfl
set_option maxRecDepth 65536 in
set_option maxHeartbeats 40000000 in
theorem rm0 (l : Launch) (Z : State) (tA : Array Value) (hw : ∀ d ∈ tables_1, d.before tA Z = true) (q0 : Int64) (q1 : Int64) (p2 : Int32) (q3 : Int64) (q4 : Int64) (p5 : Int32) (h0 : Heap) (n0 : Nat) (Z0 : n0 ≤ h0.size) :
    MetFree l x (head1 (Jvm.Cond.code x code maxLocals ret :: tables_1) room_1) (fun a U => a = #[(.long q0), (.long q1), (.int p2), (.long q3), (.long q4), (.int p5)] ∧ Z.Warmed39 U.vm ∧ U.heap = h0) (fun _ _ _ _ _ => True) (fun _ U o U' => own_Post U (fun v _ L => v = some (.int (1 : Int32)) ∧ Fr n0 L) 16 128 o U') := by
  refine own_body pn_0 ?_
  intro p e s m below meth c s₁ X0 hx hZ hby hml hown hret hlk hnm e0
  have N0 := Fr.nil n0
  rw [ef_0]
  show own_Go p e below _ (s₁.setTop (mkF m 0 #[.val (.long q0), .second, .val (.long q1), .second, .val (.int p2), .val (.long q3), .second, .val (.long q4), .second, .val (.int p5), .unset, .unset, .unset, .unset, .unset, .unset] []))
  obtain ⟨T1, h1, X1, e1, E1, A1, D1, -, st1⟩ := newO X0 hx hZ hown (hw _ (List.mem_of_getElem? (i := 0) rfl)) (hw _ (List.mem_of_getElem? (i := 1) rfl)) (hw _ (List.mem_of_getElem? (i := 2) rfl)) e0 (g := (mkF m 0 #[.val (.long q0), .second, .val (.long q1), .second, .val (.int p2), .val (.long q3), .second, .val (.long q4), .second, .val (.int p5), .unset, .unset, .unset, .unset, .unset, .unset] [])) rfl (hb hby at_0) (by decide) (by decide)
  refine own_st st1 ?_
  obtain ⟨b1, g1⟩ : ∃ z, z = h0.size := ⟨_, rfl⟩
  rw [← g1] at A1 D1 ⊢
  have g_b1 : n0 ≤ b1 := Nat.le_trans Z0 (Nat.le_of_eq g1.symm)
  replace Z0 := Nat.le_trans Z0 E1.1
  have F_file_b1 : Fld Z h1 b1 "com/example/rootward/rootward/log/LogPosition" "file" "J" (.long (0 : Int64)) := D1 (Or.inr (hw _ (List.mem_of_getElem? (i := 15) rfl))) (ty := .long) (by decide)
  have F_offset_b1 : Fld Z h1 b1 "com/example/rootward/rootward/log/LogPosition" "offset" "J" (.long (0 : Int64)) := D1 (Or.inr (hw _ (List.mem_of_getElem? (i := 17) rfl))) (ty := .long) (by decide)
  show own_Go p e below _ (T1.setTop (mkF m 3 #[.val (.long q0), .second, .val (.long q1), .second, .val (.int p2), .val (.long q3), .second, .val (.long q4), .second, .val (.int p5), .unset, .unset, .unset, .unset, .unset, .unset] [(.ref b1)]))
  refine own_st (fun _ k => XS.dup X1.here hx rfl (hb hby at_3) rfl rfl k) ?_
  show own_Go p e below _ (T1.setTop (mkF m 4 #[.val (.long q0), .second, .val (.long q1), .second, .val (.int p2), .val (.long q3), .second, .val (.long q4), .second, .val (.int p5), .unset, .unset, .unset, .unset, .unset, .unset] [(.ref b1), (.ref b1)]))
  refine own_st (fun _ k => XS.lloadN X1.here hx rfl (hb hby at_4) rfl k) ?_
  show own_Go p e below _ (T1.setTop (mkF m 5 #[.val (.long q0), .second, .val (.long q1), .second, .val (.int p2), .val (.long q3), .second, .val (.long q4), .second, .val (.int p5), .unset, .unset, .unset, .unset, .unset, .unset] [(.long q0), (.ref b1), (.ref b1)]))
  refine own_st (fun _ k => XS.lloadN X1.here hx rfl (hb hby at_5) rfl k) ?_
  show own_Go p e below _ (T1.setTop (mkF m 6 #[.val (.long q0), .second, .val (.long q1), .second, .val (.int p2), .val (.long q3), .second, .val (.long q4), .second, .val (.int p5), .unset, .unset, .unset, .unset, .unset, .unset] [(.long q1), (.long q0), (.ref b1), (.ref b1)]))
  obtain ⟨_, T2, L2, X2, hQ2, st2⟩ := own_callI X1 hx hZ (y := (⟨"com/example/rootward/rootward/log/LogPosition", "<init>", "(JJ)V"⟩ : MethodName)) (a := b1) (argsL := [(.long q0), (.long q1)]) (rest := [(.ref b1)]) (W := 1) (g := (mkF m 6 #[.val (.long q0), .second, .val (.long q1), .second, .val (.int p2), .val (.long q3), .second, .val (.long q4), .second, .val (.int p5), .unset, .unset, .unset, .unset, .unset, .unset] [(.long q1), (.long q0), (.ref b1), (.ref b1)])) (rm1 l Z tA hw b1 q0 q1 h1 n0 g_b1 A1 F_file_b1 F_offset_b1) rfl hown (hw _ (List.mem_of_getElem? (i := 3) rfl)) (hw _ (List.mem_of_getElem? (i := 4) rfl)) (hw _ (List.mem_of_getElem? (i := 2) rfl)) (hw _ (List.mem_of_getElem? (i := 5) rfl)) (by decide) e1 rfl (by rw [hml]; rfl) pd_0 rfl rfl (by show 2 * 0 + _ ≤ _; exact Nat.le_of_eq rfl) (hb hby at_6) (by decide) (by decide) (by decide) (by decide)
  obtain ⟨h2, e2⟩ : ∃ z, T2.heap = z := ⟨_, rfl⟩
  rw [e2] at hQ2
  obtain ⟨rfl, Nq2, Kq2, Fq2_0, Fq2_1⟩ := hQ2
  replace A1 := A1.keep Kq2
  replace Z0 := Nat.le_trans Z0 Kq2.1
  replace N0 := Fr.app N0 Nq2
  refine own_st st2 ?_
  show own_Go p e below _ (T2.setTop (mkF m 9 #[.val (.long q0), .second, .val (.long q1), .second, .val (.int p2), .val (.long q3), .second, .val (.long q4), .second, .val (.int p5), .unset, .unset, .unset, .unset, .unset, .unset] [(.ref b1)]))
  refine own_st (fun _ k => XS.astore X2.here hx rfl (hb hby at_9) rfl rfl (l' := #[.val (.long q0), .second, .val (.long q1), .second, .val (.int p2), .val (.long q3), .second, .val (.long q4), .second, .val (.int p5), .val (.ref b1), .unset, .unset, .unset, .unset, .unset]) rfl k) ?_
  show own_Go p e below _ (T2.setTop (mkF m 11 #[.val (.long q0), .second, .val (.long q1), .second, .val (.int p2), .val (.long q3), .second, .val (.long q4), .second, .val (.int p5), .val (.ref b1), .unset, .unset, .unset, .unset, .unset] []))
  obtain ⟨T3, h3, X3, e3, E3, A3, D3, -, st3⟩ := newO X2 hx hZ hown (hw _ (List.mem_of_getElem? (i := 18) rfl)) (hw _ (List.mem_of_getElem? (i := 19) rfl)) (hw _ (List.mem_of_getElem? (i := 20) rfl)) e2 (g := (mkF m 11 #[.val (.long q0), .second, .val (.long q1), .second, .val (.int p2), .val (.long q3), .second, .val (.long q4), .second, .val (.int p5), .val (.ref b1), .unset, .unset, .unset, .unset, .unset] [])) rfl (hb hby at_11) (by decide) (by decide)
  refine own_st st3 ?_
  obtain ⟨b3, g3⟩ : ∃ z, z = h2.size := ⟨_, rfl⟩
  rw [← g3] at A3 D3 ⊢
  have g_b3 : n0 ≤ b3 := Nat.le_trans Z0 (Nat.le_of_eq g3.symm)
  have ne_b1_b3 : b1 ≠ b3 := Nat.ne_of_lt (Nat.lt_of_lt_of_le A1.lt (Nat.le_of_eq g3.symm))
  have ne_b3_b1 : b3 ≠ b1 := Ne.symm ne_b1_b3
  replace A1 := A1.ext E3
  replace Fq2_0 := Fq2_0.ext E3
  replace Fq2_1 := Fq2_1.ext E3
  replace Z0 := Nat.le_trans Z0 E3.1
  have F_position_b3 : Fld Z h3 b3 "com/example/rootward/rootward/store/Logged" "position" "Lcom/example/rootward/rootward/log/LogPosition;" .null := D3 (Or.inr (hw _ (List.mem_of_getElem? (i := 29) rfl))) (ty := (.object "com/example/rootward/rootward/log/LogPosition")) (by decide)
  have F_length_b3 : Fld Z h3 b3 "com/example/rootward/rootward/store/Logged" "length" "I" (.int (0 : Int32)) := D3 (Or.inr (hw _ (List.mem_of_getElem? (i := 31) rfl))) (ty := .int) (by decide)
  have F_whole_b3 : Fld Z h3 b3 "com/example/rootward/rootward/store/Logged" "whole" "Lcom/example/rootward/rootward/store/Logged;" .null := D3 (Or.inr (hw _ (List.mem_of_getElem? (i := 33) rfl))) (ty := (.object "com/example/rootward/rootward/store/Logged")) (by decide)
  show own_Go p e below _ (T3.setTop (mkF m 14 #[.val (.long q0), .second, .val (.long q1), .second, .val (.int p2), .val (.long q3), .second, .val (.long q4), .second, .val (.int p5), .val (.ref b1), .unset, .unset, .unset, .unset, .unset] [(.ref b3)]))
  refine own_st (fun _ k => XS.dup X3.here hx rfl (hb hby at_14) rfl rfl k) ?_
  show own_Go p e below _ (T3.setTop (mkF m 15 #[.val (.long q0), .second, .val (.long q1), .second, .val (.int p2), .val (.long q3), .second, .val (.long q4), .second, .val (.int p5), .val (.ref b1), .unset, .unset, .unset, .unset, .unset] [(.ref b3), (.ref b3)]))
  refine own_st (fun _ k => XS.aload X3.here hx rfl (hb hby at_15) rfl rfl k) ?_
  show own_Go p e below _ (T3.setTop (mkF m 17 #[.val (.long q0), .second, .val (.long q1), .second, .val (.int p2), .val (.long q3), .second, .val (.long q4), .second, .val (.int p5), .val (.ref b1), .unset, .unset, .unset, .unset, .unset] [(.ref b1), (.ref b3), (.ref b3)]))
  refine own_st (fun _ k => XS.iload X3.here hx rfl (hb hby at_17) rfl k) ?_
  show own_Go p e below _ (T3.setTop (mkF m 19 #[.val (.long q0), .second, .val (.long q1), .second, .val (.int p2), .val (.long q3), .second, .val (.long q4), .second, .val (.int p5), .val (.ref b1), .unset, .unset, .unset, .unset, .unset] [(.int p2), (.ref b1), (.ref b3), (.ref b3)]))
  obtain ⟨_, T4, L4, X4, hQ4, st4⟩ := own_callI X3 hx hZ (y := (⟨"com/example/rootward/rootward/store/Logged", "<init>", "(Lcom/example/rootward/rootward/log/LogPosition;I)V"⟩ : MethodName)) (a := b3) (argsL := [(.ref b1), (.int p2)]) (rest := [(.ref b3)]) (W := 1) (g := (mkF m 19 #[.val (.long q0), .second, .val (.long q1), .second, .val (.int p2), .val (.long q3), .second, .val (.long q4), .second, .val (.int p5), .val (.ref b1), .unset, .unset, .unset, .unset, .unset] [(.int p2), (.ref b1), (.ref b3), (.ref b3)])) (rm4 l Z tA hw b3 b1 p2 h3 n0 g_b3 A3 F_position_b3 F_length_b3 F_whole_b3) rfl hown (hw _ (List.mem_of_getElem? (i := 21) rfl)) (hw _ (List.mem_of_getElem? (i := 22) rfl)) (hw _ (List.mem_of_getElem? (i := 20) rfl)) (hw _ (List.mem_of_getElem? (i := 23) rfl)) (by decide) e3 rfl (by rw [hml]; rfl) pd_2 rfl rfl (by show 2 * 0 + _ ≤ _; exact Nat.le_of_eq rfl) (hb hby at_19) (by decide) (by decide) (by decide) (by decide)
  obtain ⟨h4, e4⟩ : ∃ z, T4.heap = z := ⟨_, rfl⟩
  rw [e4] at hQ4
  obtain ⟨rfl, Nq4, Kq4, Fq4_0, Fq4_1, Fq4_2⟩ := hQ4
  replace A1 := A1.keep Kq4
  replace Fq2_0 := Fq2_0.keep Kq4 (ninS ne_b1_b3 (nin0))
  replace Fq2_1 := Fq2_1.keep Kq4 (ninS ne_b1_b3 (nin0))
  replace A3 := A3.keep Kq4
  replace Z0 := Nat.le_trans Z0 Kq4.1
  replace N0 := Fr.app N0 Nq4
  refine own_st st4 ?_
  show own_Go p e below _ (T4.setTop (mkF m 22 #[.val (.long q0), .second, .val (.long q1), .second, .val (.int p2), .val (.long q3), .second, .val (.long q4), .second, .val (.int p5), .val (.ref b1), .unset, .unset, .unset, .unset, .unset] [(.ref b3)]))
  refine own_st (fun _ k => XS.astore X4.here hx rfl (hb hby at_22) rfl rfl (l' := #[.val (.long q0), .second, .val (.long q1), .second, .val (.int p2), .val (.long q3), .second, .val (.long q4), .second, .val (.int p5), .val (.ref b1), .val (.ref b3), .unset, .unset, .unset, .unset]) rfl k) ?_
  show own_Go p e below _ (T4.setTop (mkF m 24 #[.val (.long q0), .second, .val (.long q1), .second, .val (.int p2), .val (.long q3), .second, .val (.long q4), .second, .val (.int p5), .val (.ref b1), .val (.ref b3), .unset, .unset, .unset, .unset] []))
  refine own_st (fun _ k => XS.iload X4.here hx rfl (hb hby at_24) rfl k) ?_
  show own_Go p e below _ (T4.setTop (mkF m 26 #[.val (.long q0), .second, .val (.long q1), .second, .val (.int p2), .val (.long q3), .second, .val (.long q4), .second, .val (.int p5), .val (.ref b1), .val (.ref b3), .unset, .unset, .unset, .unset] [(.int p5)]))
  refine own_st (fun _ k => XS.iconst X4.here hx rfl (hb hby at_26) k) ?_
  show own_Go p e below _ (T4.setTop (mkF m 27 #[.val (.long q0), .second, .val (.long q1), .second, .val (.int p2), .val (.long q3), .second, .val (.long q4), .second, .val (.int p5), .val (.ref b1), .val (.ref b3), .unset, .unset, .unset, .unset] [(.int (1 : Int32)), (.int p5)]))
  refine own_st (fun _ k => XS.iand X4.here hx rfl (hb hby at_27) rfl k) ?_
  show own_Go p e below _ (T4.setTop (mkF m 28 #[.val (.long q0), .second, .val (.long q1), .second, .val (.int p2), .val (.long q3), .second, .val (.long q4), .second, .val (.int p5), .val (.ref b1), .val (.ref b3), .unset, .unset, .unset, .unset] [(.int (p5 &&& (1 : Int32)))]))
  by_cases hc28 : (p5 &&& (1 : Int32)) = (0 : Int32)
  · refine own_st (fun _ k => XS.ifYes X4.here hx rfl (pc0 := 28) (pc' := 35) rfl (hb hby at_28) rfl ((own_i0 _ _).trans (own_yes (hc28 : (p5 &&& (1 : Int32)) = (0 : Int32)))) (by decide) (by decide) k) ?_
    show own_Go p e below _ (T4.setTop (mkF m 35 #[.val (.long q0), .second, .val (.long q1), .second, .val (.int p2), .val (.long q3), .second, .val (.long q4), .second, .val (.int p5), .val (.ref b1), .val (.ref b3), .unset, .unset, .unset, .unset] []))
    refine own_st (fun _ k => XS.iconst X4.here hx rfl (hb hby at_35) k) ?_
    show own_Go p e below _ (T4.setTop (mkF m 36 #[.val (.long q0), .second, .val (.long q1), .second, .val (.int p2), .val (.long q3), .second, .val (.long q4), .second, .val (.int p5), .val (.ref b1), .val (.ref b3), .unset, .unset, .unset, .unset] [(.int (0 : Int32))]))
    refine own_st (fun _ k => XS.istore X4.here hx rfl (hb hby at_36) rfl (l' := #[.val (.long q0), .second, .val (.long q1), .second, .val (.int p2), .val (.long q3), .second, .val (.long q4), .second, .val (.int p5), .val (.ref b1), .val (.ref b3), .val (.int (0 : Int32)), .unset, .unset, .unset]) rfl k) ?_
    show own_Go p e below _ (T4.setTop (mkF m 38 #[.val (.long q0), .second, .val (.long q1), .second, .val (.int p2), .val (.long q3), .second, .val (.long q4), .second, .val (.int p5), .val (.ref b1), .val (.ref b3), .val (.int (0 : Int32)), .unset, .unset, .unset] []))
    refine own_st (fun _ k => XS.iload X4.here hx rfl (hb hby at_38) rfl k) ?_
    show own_Go p e below _ (T4.setTop (mkF m 40 #[.val (.long q0), .second, .val (.long q1), .second, .val (.int p2), .val (.long q3), .second, .val (.long q4), .second, .val (.int p5), .val (.ref b1), .val (.ref b3), .val (.int (0 : Int32)), .unset, .unset, .unset] [(.int (0 : Int32))]))
    refine own_st (fun _ k => XS.ifNo X4.here hx rfl (hb hby at_40) rfl ((own_i0 _ _).trans (own_nyes ((by decide : (0 : Int32) = (0 : Int32)) : (0 : Int32) = (0 : Int32)))) k) ?_
    show own_Go p e below _ (T4.setTop (mkF m 43 #[.val (.long q0), .second, .val (.long q1), .second, .val (.int p2), .val (.long q3), .second, .val (.long q4), .second, .val (.int p5), .val (.ref b1), .val (.ref b3), .val (.int (0 : Int32)), .unset, .unset, .unset] []))
    refine own_st (fun _ k => XS.aload X4.here hx rfl (hb hby at_43) rfl rfl k) ?_
    show own_Go p e below _ (T4.setTop (mkF m 45 #[.val (.long q0), .second, .val (.long q1), .second, .val (.int p2), .val (.long q3), .second, .val (.long q4), .second, .val (.int p5), .val (.ref b1), .val (.ref b3), .val (.int (0 : Int32)), .unset, .unset, .unset] [(.ref b3)]))
    obtain ⟨_, T5, _, X5, ⟨rfl, rfl, e5⟩, st5⟩ := own_callV X4 hx hZ (y := (⟨"com/example/rootward/rootward/store/Logged", "wholeEntry", "()Lcom/example/rootward/rootward/store/Logged;"⟩ : MethodName)) (a := b3) (argsL := []) (rest := []) (W := 0) (g := (mkF m 45 #[.val (.long q0), .second, .val (.long q1), .second, .val (.int p2), .val (.long q3), .second, .val (.long q4), .second, .val (.int p5), .val (.ref b1), .val (.ref b3), .val (.int (0 : Int32)), .unset, .unset, .unset] [(.ref b3)])) (rmW0 l Z tA hw b3 h4 Fq4_2) A3 hown (hw _ (List.mem_of_getElem? (i := 35) rfl)) (hw _ (List.mem_of_getElem? (i := 36) rfl)) (hw _ (List.mem_of_getElem? (i := 38) rfl)) (hw _ (List.mem_of_getElem? (i := 37) rfl)) (hw _ (List.mem_of_getElem? (i := 20) rfl)) (hw _ (List.mem_of_getElem? (i := 39) rfl)) (by decide) e4 rfl (by rw [hml]; rfl) pd_4 rfl rfl (by show 2 * 0 + _ ≤ _; exact Nat.le_of_eq rfl) (hb hby at_45) (by decide) (by decide) (by decide) (by decide)
    replace X5 := own_flat X5
    refine own_st st5 ?_
    show own_Go p e below _ (T5.setTop (mkF m 48 #[.val (.long q0), .second, .val (.long q1), .second, .val (.int p2), .val (.long q3), .second, .val (.long q4), .second, .val (.int p5), .val (.ref b1), .val (.ref b3), .val (.int (0 : Int32)), .unset, .unset, .unset] [(.ref b3)]))
    refine own_st (fun _ k => XS.astore X5.here hx rfl (hb hby at_48) rfl rfl (l' := #[.val (.long q0), .second, .val (.long q1), .second, .val (.int p2), .val (.long q3), .second, .val (.long q4), .second, .val (.int p5), .val (.ref b1), .val (.ref b3), .val (.int (0 : Int32)), .val (.ref b3), .unset, .unset]) rfl k) ?_
    show own_Go p e below _ (T5.setTop (mkF m 50 #[.val (.long q0), .second, .val (.long q1), .second, .val (.int p2), .val (.long q3), .second, .val (.long q4), .second, .val (.int p5), .val (.ref b1), .val (.ref b3), .val (.int (0 : Int32)), .val (.ref b3), .unset, .unset] []))
    refine own_st (fun _ k => XS.aload X5.here hx rfl (hb hby at_50) rfl rfl k) ?_
    show own_Go p e below _ (T5.setTop (mkF m 52 #[.val (.long q0), .second, .val (.long q1), .second, .val (.int p2), .val (.long q3), .second, .val (.long q4), .second, .val (.int p5), .val (.ref b1), .val (.ref b3), .val (.int (0 : Int32)), .val (.ref b3), .unset, .unset] [(.ref b3)]))
    refine own_st (fun _ k => XS.aload X5.here hx rfl (hb hby at_52) rfl rfl k) ?_
    show own_Go p e below _ (T5.setTop (mkF m 54 #[.val (.long q0), .second, .val (.long q1), .second, .val (.int p2), .val (.long q3), .second, .val (.long q4), .second, .val (.int p5), .val (.ref b1), .val (.ref b3), .val (.int (0 : Int32)), .val (.ref b3), .unset, .unset] [(.ref b3), (.ref b3)]))
    refine own_st (fun _ k => Jvm.RoadKit.acmp (g := (mkF m 54 #[.val (.long q0), .second, .val (.long q1), .second, .val (.int p2), .val (.long q3), .second, .val (.long q4), .second, .val (.int p5), .val (.ref b1), .val (.ref b3), .val (.int (0 : Int32)), .val (.ref b3), .unset, .unset] [(.ref b3), (.ref b3)])) X5 hx rfl rfl rfl (pc0 := 54) (pc' := 57) (same := true) rfl (hb hby at_54) rfl (decide_eq_true rfl) (by decide) (by decide) k) ?_
    show own_Go p e below _ (T5.setTop (mkF m 57 #[.val (.long q0), .second, .val (.long q1), .second, .val (.int p2), .val (.long q3), .second, .val (.long q4), .second, .val (.int p5), .val (.ref b1), .val (.ref b3), .val (.int (0 : Int32)), .val (.ref b3), .unset, .unset] []))
    refine own_st (fun _ k => XS.aload X5.here hx rfl (hb hby at_57) rfl rfl k) ?_
    show own_Go p e below _ (T5.setTop (mkF m 59 #[.val (.long q0), .second, .val (.long q1), .second, .val (.int p2), .val (.long q3), .second, .val (.long q4), .second, .val (.int p5), .val (.ref b1), .val (.ref b3), .val (.int (0 : Int32)), .val (.ref b3), .unset, .unset] [(.ref b3)]))
    obtain ⟨_, T6, _, X6, ⟨rfl, rfl, e6⟩, st6⟩ := own_callV X5 hx hZ (y := (⟨"com/example/rootward/rootward/store/Logged", "wholeEntry", "()Lcom/example/rootward/rootward/store/Logged;"⟩ : MethodName)) (a := b3) (argsL := []) (rest := []) (W := 0) (g := (mkF m 59 #[.val (.long q0), .second, .val (.long q1), .second, .val (.int p2), .val (.long q3), .second, .val (.long q4), .second, .val (.int p5), .val (.ref b1), .val (.ref b3), .val (.int (0 : Int32)), .val (.ref b3), .unset, .unset] [(.ref b3)])) (rmW0 l Z tA hw b3 h4 Fq4_2) A3 hown (hw _ (List.mem_of_getElem? (i := 35) rfl)) (hw _ (List.mem_of_getElem? (i := 36) rfl)) (hw _ (List.mem_of_getElem? (i := 38) rfl)) (hw _ (List.mem_of_getElem? (i := 37) rfl)) (hw _ (List.mem_of_getElem? (i := 20) rfl)) (hw _ (List.mem_of_getElem? (i := 39) rfl)) (by decide) e5 rfl (by rw [hml]; rfl) pd_4 rfl rfl (by show 2 * 0 + _ ≤ _; exact Nat.le_of_eq rfl) (hb hby at_59) (by decide) (by decide) (by decide) (by decide)
    replace X6 := own_flat X6
    refine own_st st6 ?_
    show own_Go p e below _ (T6.setTop (mkF m 62 #[.val (.long q0), .second, .val (.long q1), .second, .val (.int p2), .val (.long q3), .second, .val (.long q4), .second, .val (.int p5), .val (.ref b1), .val (.ref b3), .val (.int (0 : Int32)), .val (.ref b3), .unset, .unset] [(.ref b3)]))
    refine own_st (fun _ k => XS.aload X6.here hx rfl (hb hby at_62) rfl rfl k) ?_
    show own_Go p e below _ (T6.setTop (mkF m 64 #[.val (.long q0), .second, .val (.long q1), .second, .val (.int p2), .val (.long q3), .second, .val (.long q4), .second, .val (.int p5), .val (.ref b1), .val (.ref b3), .val (.int (0 : Int32)), .val (.ref b3), .unset, .unset] [(.ref b3), (.ref b3)]))
    refine own_st (fun _ k => Jvm.RoadKit.acmp (g := (mkF m 64 #[.val (.long q0), .second, .val (.long q1), .second, .val (.int p2), .val (.long q3), .second, .val (.long q4), .second, .val (.int p5), .val (.ref b1), .val (.ref b3), .val (.int (0 : Int32)), .val (.ref b3), .unset, .unset] [(.ref b3), (.ref b3)])) X6 hx rfl rfl rfl (pc0 := 64) (pc' := 67) (same := true) rfl (hb hby at_64) rfl (decide_eq_true rfl) (by decide) (by decide) k) ?_
    show own_Go p e below _ (T6.setTop (mkF m 67 #[.val (.long q0), .second, .val (.long q1), .second, .val (.int p2), .val (.long q3), .second, .val (.long q4), .second, .val (.int p5), .val (.ref b1), .val (.ref b3), .val (.int (0 : Int32)), .val (.ref b3), .unset, .unset] []))
    refine own_st (fun _ k => XS.iconst X6.here hx rfl (hb hby at_67) k) ?_
    show own_Go p e below _ (T6.setTop (mkF m 68 #[.val (.long q0), .second, .val (.long q1), .second, .val (.int p2), .val (.long q3), .second, .val (.long q4), .second, .val (.int p5), .val (.ref b1), .val (.ref b3), .val (.int (0 : Int32)), .val (.ref b3), .unset, .unset] [(.int (1 : Int32))]))
    refine own_st (fun _ k => XS.goto X6.here hx rfl (pc0 := 68) (pc' := 72) rfl (hb hby at_68) (by decide) (by decide) k) ?_
    show own_Go p e below _ (T6.setTop (mkF m 72 #[.val (.long q0), .second, .val (.long q1), .second, .val (.int p2), .val (.long q3), .second, .val (.long q4), .second, .val (.int p5), .val (.ref b1), .val (.ref b3), .val (.int (0 : Int32)), .val (.ref b3), .unset, .unset] [(.int (1 : Int32))]))
    exact own_retZ X6 hx hlk hret rfl (hb hby at_72) ⟨rfl, N0⟩ (by decide) (by decide)
  · refine own_st (fun _ k => XS.ifNo X4.here hx rfl (hb hby at_28) rfl ((own_i0 _ _).trans (own_no (hc28 : ¬ ((p5 &&& (1 : Int32)) = (0 : Int32))))) k) ?_
    show own_Go p e below _ (T4.setTop (mkF m 31 #[.val (.long q0), .second, .val (.long q1), .second, .val (.int p2), .val (.long q3), .second, .val (.long q4), .second, .val (.int p5), .val (.ref b1), .val (.ref b3), .unset, .unset, .unset, .unset] []))
    refine own_st (fun _ k => XS.iconst X4.here hx rfl (hb hby at_31) k) ?_
    show own_Go p e below _ (T4.setTop (mkF m 32 #[.val (.long q0), .second, .val (.long q1), .second, .val (.int p2), .val (.long q3), .second, .val (.long q4), .second, .val (.int p5), .val (.ref b1), .val (.ref b3), .unset, .unset, .unset, .unset] [(.int (1 : Int32))]))
    refine own_st (fun _ k => XS.goto X4.here hx rfl (pc0 := 32) (pc' := 36) rfl (hb hby at_32) (by decide) (by decide) k) ?_
    show own_Go p e below _ (T4.setTop (mkF m 36 #[.val (.long q0), .second, .val (.long q1), .second, .val (.int p2), .val (.long q3), .second, .val (.long q4), .second, .val (.int p5), .val (.ref b1), .val (.ref b3), .unset, .unset, .unset, .unset] [(.int (1 : Int32))]))
    refine own_st (fun _ k => XS.istore X4.here hx rfl (hb hby at_36) rfl (l' := #[.val (.long q0), .second, .val (.long q1), .second, .val (.int p2), .val (.long q3), .second, .val (.long q4), .second, .val (.int p5), .val (.ref b1), .val (.ref b3), .val (.int (1 : Int32)), .unset, .unset, .unset]) rfl k) ?_
    show own_Go p e below _ (T4.setTop (mkF m 38 #[.val (.long q0), .second, .val (.long q1), .second, .val (.int p2), .val (.long q3), .second, .val (.long q4), .second, .val (.int p5), .val (.ref b1), .val (.ref b3), .val (.int (1 : Int32)), .unset, .unset, .unset] []))
    refine own_st (fun _ k => XS.iload X4.here hx rfl (hb hby at_38) rfl k) ?_
    show own_Go p e below _ (T4.setTop (mkF m 40 #[.val (.long q0), .second, .val (.long q1), .second, .val (.int p2), .val (.long q3), .second, .val (.long q4), .second, .val (.int p5), .val (.ref b1), .val (.ref b3), .val (.int (1 : Int32)), .unset, .unset, .unset] [(.int (1 : Int32))]))
    refine own_st (fun _ k => XS.ifYes X4.here hx rfl (pc0 := 40) (pc' := 73) rfl (hb hby at_40) rfl ((own_i0 _ _).trans (own_nno ((by decide : ¬ ((1 : Int32) = (0 : Int32))) : ¬ ((1 : Int32) = (0 : Int32))))) (by decide) (by decide) k) ?_
    show own_Go p e below _ (T4.setTop (mkF m 73 #[.val (.long q0), .second, .val (.long q1), .second, .val (.int p2), .val (.long q3), .second, .val (.long q4), .second, .val (.int p5), .val (.ref b1), .val (.ref b3), .val (.int (1 : Int32)), .unset, .unset, .unset] []))
    obtain ⟨T7, h7, X7, e7, E7, A7, D7, -, st7⟩ := newO X4 hx hZ hown (hw _ (List.mem_of_getElem? (i := 0) rfl)) (hw _ (List.mem_of_getElem? (i := 1) rfl)) (hw _ (List.mem_of_getElem? (i := 2) rfl)) e4 (g := (mkF m 73 #[.val (.long q0), .second, .val (.long q1), .second, .val (.int p2), .val (.long q3), .second, .val (.long q4), .second, .val (.int p5), .val (.ref b1), .val (.ref b3), .val (.int (1 : Int32)), .unset, .unset, .unset] [])) rfl (hb hby at_73) (by decide) (by decide)
    refine own_st st7 ?_
    obtain ⟨b7, g7⟩ : ∃ z, z = h4.size := ⟨_, rfl⟩
    rw [← g7] at A7 D7 ⊢
    have g_b7 : n0 ≤ b7 := Nat.le_trans Z0 (Nat.le_of_eq g7.symm)
    have ne_b1_b7 : b1 ≠ b7 := Nat.ne_of_lt (Nat.lt_of_lt_of_le A1.lt (Nat.le_of_eq g7.symm))
    have ne_b7_b1 : b7 ≠ b1 := Ne.symm ne_b1_b7
    have ne_b3_b7 : b3 ≠ b7 := Nat.ne_of_lt (Nat.lt_of_lt_of_le A3.lt (Nat.le_of_eq g7.symm))
    have ne_b7_b3 : b7 ≠ b3 := Ne.symm ne_b3_b7
    replace A1 := A1.ext E7
    replace Fq2_0 := Fq2_0.ext E7
    replace Fq2_1 := Fq2_1.ext E7
    replace A3 := A3.ext E7
    replace Fq4_0 := Fq4_0.ext E7
    replace Fq4_1 := Fq4_1.ext E7
    replace Fq4_2 := Fq4_2.ext E7
    replace Z0 := Nat.le_trans Z0 E7.1
    have F_file_b7 : Fld Z h7 b7 "com/example/rootward/rootward/log/LogPosition" "file" "J" (.long (0 : Int64)) := D7 (Or.inr (hw _ (List.mem_of_getElem? (i := 15) rfl))) (ty := .long) (by decide)
    have F_offset_b7 : Fld Z h7 b7 "com/example/rootward/rootward/log/LogPosition" "offset" "J" (.long (0 : Int64)) := D7 (Or.inr (hw _ (List.mem_of_getElem? (i := 17) rfl))) (ty := .long) (by decide)
    show own_Go p e below _ (T7.setTop (mkF m 76 #[.val (.long q0), .second, .val (.long q1), .second, .val (.int p2), .val (.long q3), .second, .val (.long q4), .second, .val (.int p5), .val (.ref b1), .val (.ref b3), .val (.int (1 : Int32)), .unset, .unset, .unset] [(.ref b7)]))
    refine own_st (fun _ k => XS.dup X7.here hx rfl (hb hby at_76) rfl rfl k) ?_
    show own_Go p e below _ (T7.setTop (mkF m 77 #[.val (.long q0), .second, .val (.long q1), .second, .val (.int p2), .val (.long q3), .second, .val (.long q4), .second, .val (.int p5), .val (.ref b1), .val (.ref b3), .val (.int (1 : Int32)), .unset, .unset, .unset] [(.ref b7), (.ref b7)]))
    refine own_st (fun _ k => XS.lload X7.here hx rfl (hb hby at_77) rfl k) ?_
    show own_Go p e below _ (T7.setTop (mkF m 79 #[.val (.long q0), .second, .val (.long q1), .second, .val (.int p2), .val (.long q3), .second, .val (.long q4), .second, .val (.int p5), .val (.ref b1), .val (.ref b3), .val (.int (1 : Int32)), .unset, .unset, .unset] [(.long q3), (.ref b7), (.ref b7)]))
    refine own_st (fun _ k => XS.lload X7.here hx rfl (hb hby at_79) rfl k) ?_
    show own_Go p e below _ (T7.setTop (mkF m 81 #[.val (.long q0), .second, .val (.long q1), .second, .val (.int p2), .val (.long q3), .second, .val (.long q4), .second, .val (.int p5), .val (.ref b1), .val (.ref b3), .val (.int (1 : Int32)), .unset, .unset, .unset] [(.long q4), (.long q3), (.ref b7), (.ref b7)]))
    obtain ⟨_, T8, L8, X8, hQ8, st8⟩ := own_callI X7 hx hZ (y := (⟨"com/example/rootward/rootward/log/LogPosition", "<init>", "(JJ)V"⟩ : MethodName)) (a := b7) (argsL := [(.long q3), (.long q4)]) (rest := [(.ref b7)]) (W := 1) (g := (mkF m 81 #[.val (.long q0), .second, .val (.long q1), .second, .val (.int p2), .val (.long q3), .second, .val (.long q4), .second, .val (.int p5), .val (.ref b1), .val (.ref b3), .val (.int (1 : Int32)), .unset, .unset, .unset] [(.long q4), (.long q3), (.ref b7), (.ref b7)])) (rm1 l Z tA hw b7 q3 q4 h7 n0 g_b7 A7 F_file_b7 F_offset_b7) rfl hown (hw _ (List.mem_of_getElem? (i := 3) rfl)) (hw _ (List.mem_of_getElem? (i := 4) rfl)) (hw _ (List.mem_of_getElem? (i := 2) rfl)) (hw _ (List.mem_of_getElem? (i := 5) rfl)) (by decide) e7 rfl (by rw [hml]; rfl) pd_0 rfl rfl (by show 2 * 0 + _ ≤ _; exact Nat.le_of_eq rfl) (hb hby at_81) (by decide) (by decide) (by decide) (by decide)
    obtain ⟨h8, e8⟩ : ∃ z, T8.heap = z := ⟨_, rfl⟩
    rw [e8] at hQ8
    obtain ⟨rfl, Nq8, Kq8, Fq8_0, Fq8_1⟩ := hQ8
    replace A1 := A1.keep Kq8
    replace Fq2_0 := Fq2_0.keep Kq8 (ninS ne_b1_b7 (nin0))
    replace Fq2_1 := Fq2_1.keep Kq8 (ninS ne_b1_b7 (nin0))
    replace A3 := A3.keep Kq8
    replace Fq4_0 := Fq4_0.keep Kq8 (ninS ne_b3_b7 (nin0))
    replace Fq4_1 := Fq4_1.keep Kq8 (ninS ne_b3_b7 (nin0))
    replace Fq4_2 := Fq4_2.keep Kq8 (ninS ne_b3_b7 (nin0))
    replace A7 := A7.keep Kq8
    replace Z0 := Nat.le_trans Z0 Kq8.1
    replace N0 := Fr.app N0 Nq8
    refine own_st st8 ?_
    show own_Go p e below _ (T8.setTop (mkF m 84 #[.val (.long q0), .second, .val (.long q1), .second, .val (.int p2), .val (.long q3), .second, .val (.long q4), .second, .val (.int p5), .val (.ref b1), .val (.ref b3), .val (.int (1 : Int32)), .unset, .unset, .unset] [(.ref b7)]))
    refine own_st (fun _ k => XS.astore X8.here hx rfl (hb hby at_84) rfl rfl (l' := #[.val (.long q0), .second, .val (.long q1), .second, .val (.int p2), .val (.long q3), .second, .val (.long q4), .second, .val (.int p5), .val (.ref b1), .val (.ref b3), .val (.int (1 : Int32)), .val (.ref b7), .unset, .unset]) rfl k) ?_
    show own_Go p e below _ (T8.setTop (mkF m 86 #[.val (.long q0), .second, .val (.long q1), .second, .val (.int p2), .val (.long q3), .second, .val (.long q4), .second, .val (.int p5), .val (.ref b1), .val (.ref b3), .val (.int (1 : Int32)), .val (.ref b7), .unset, .unset] []))
    obtain ⟨T9, h9, X9, e9, E9, A9, D9, -, st9⟩ := newO X8 hx hZ hown (hw _ (List.mem_of_getElem? (i := 18) rfl)) (hw _ (List.mem_of_getElem? (i := 19) rfl)) (hw _ (List.mem_of_getElem? (i := 20) rfl)) e8 (g := (mkF m 86 #[.val (.long q0), .second, .val (.long q1), .second, .val (.int p2), .val (.long q3), .second, .val (.long q4), .second, .val (.int p5), .val (.ref b1), .val (.ref b3), .val (.int (1 : Int32)), .val (.ref b7), .unset, .unset] [])) rfl (hb hby at_86) (by decide) (by decide)
    refine own_st st9 ?_
    obtain ⟨b9, g9⟩ : ∃ z, z = h8.size := ⟨_, rfl⟩
    rw [← g9] at A9 D9 ⊢
    have g_b9 : n0 ≤ b9 := Nat.le_trans Z0 (Nat.le_of_eq g9.symm)
    have ne_b1_b9 : b1 ≠ b9 := Nat.ne_of_lt (Nat.lt_of_lt_of_le A1.lt (Nat.le_of_eq g9.symm))
    have ne_b9_b1 : b9 ≠ b1 := Ne.symm ne_b1_b9
    have ne_b3_b9 : b3 ≠ b9 := Nat.ne_of_lt (Nat.lt_of_lt_of_le A3.lt (Nat.le_of_eq g9.symm))
    have ne_b9_b3 : b9 ≠ b3 := Ne.symm ne_b3_b9
    have ne_b7_b9 : b7 ≠ b9 := Nat.ne_of_lt (Nat.lt_of_lt_of_le A7.lt (Nat.le_of_eq g9.symm))
    have ne_b9_b7 : b9 ≠ b7 := Ne.symm ne_b7_b9
    replace A1 := A1.ext E9
    replace Fq2_0 := Fq2_0.ext E9
    replace Fq2_1 := Fq2_1.ext E9
    replace A3 := A3.ext E9
    replace Fq4_0 := Fq4_0.ext E9
    replace Fq4_1 := Fq4_1.ext E9
    replace Fq4_2 := Fq4_2.ext E9
    replace A7 := A7.ext E9
    replace Fq8_0 := Fq8_0.ext E9
    replace Fq8_1 := Fq8_1.ext E9
    replace Z0 := Nat.le_trans Z0 E9.1
    have F_position_b9 : Fld Z h9 b9 "com/example/rootward/rootward/store/Logged" "position" "Lcom/example/rootward/rootward/log/LogPosition;" .null := D9 (Or.inr (hw _ (List.mem_of_getElem? (i := 29) rfl))) (ty := (.object "com/example/rootward/rootward/log/LogPosition")) (by decide)
    have F_length_b9 : Fld Z h9 b9 "com/example/rootward/rootward/store/Logged" "length" "I" (.int (0 : Int32)) := D9 (Or.inr (hw _ (List.mem_of_getElem? (i := 31) rfl))) (ty := .int) (by decide)
    have F_whole_b9 : Fld Z h9 b9 "com/example/rootward/rootward/store/Logged" "whole" "Lcom/example/rootward/rootward/store/Logged;" .null := D9 (Or.inr (hw _ (List.mem_of_getElem? (i := 33) rfl))) (ty := (.object "com/example/rootward/rootward/store/Logged")) (by decide)
    show own_Go p e below _ (T9.setTop (mkF m 89 #[.val (.long q0), .second, .val (.long q1), .second, .val (.int p2), .val (.long q3), .second, .val (.long q4), .second, .val (.int p5), .val (.ref b1), .val (.ref b3), .val (.int (1 : Int32)), .val (.ref b7), .unset, .unset] [(.ref b9)]))
    refine own_st (fun _ k => XS.dup X9.here hx rfl (hb hby at_89) rfl rfl k) ?_
    show own_Go p e below _ (T9.setTop (mkF m 90 #[.val (.long q0), .second, .val (.long q1), .second, .val (.int p2), .val (.long q3), .second, .val (.long q4), .second, .val (.int p5), .val (.ref b1), .val (.ref b3), .val (.int (1 : Int32)), .val (.ref b7), .unset, .unset] [(.ref b9), (.ref b9)]))
    refine own_st (fun _ k => XS.aload X9.here hx rfl (hb hby at_90) rfl rfl k) ?_
    show own_Go p e below _ (T9.setTop (mkF m 92 #[.val (.long q0), .second, .val (.long q1), .second, .val (.int p2), .val (.long q3), .second, .val (.long q4), .second, .val (.int p5), .val (.ref b1), .val (.ref b3), .val (.int (1 : Int32)), .val (.ref b7), .unset, .unset] [(.ref b7), (.ref b9), (.ref b9)]))
    refine own_st (fun _ k => XS.iload X9.here hx rfl (hb hby at_92) rfl k) ?_
    show own_Go p e below _ (T9.setTop (mkF m 94 #[.val (.long q0), .second, .val (.long q1), .second, .val (.int p2), .val (.long q3), .second, .val (.long q4), .second, .val (.int p5), .val (.ref b1), .val (.ref b3), .val (.int (1 : Int32)), .val (.ref b7), .unset, .unset] [(.int p5), (.ref b7), (.ref b9), (.ref b9)]))
    refine own_st (fun _ k => XS.iconst X9.here hx rfl (hb hby at_94) k) ?_
    show own_Go p e below _ (T9.setTop (mkF m 95 #[.val (.long q0), .second, .val (.long q1), .second, .val (.int p2), .val (.long q3), .second, .val (.long q4), .second, .val (.int p5), .val (.ref b1), .val (.ref b3), .val (.int (1 : Int32)), .val (.ref b7), .unset, .unset] [(.int (1 : Int32)), (.int p5), (.ref b7), (.ref b9), (.ref b9)]))
    refine own_st (fun _ k => XS.ishr X9.here hx rfl (hb hby at_95) rfl k) ?_
    show own_Go p e below _ (T9.setTop (mkF m 96 #[.val (.long q0), .second, .val (.long q1), .second, .val (.int p2), .val (.long q3), .second, .val (.long q4), .second, .val (.int p5), .val (.ref b1), .val (.ref b3), .val (.int (1 : Int32)), .val (.ref b7), .unset, .unset] [(.int (p5 >>> ((1 : Int32) &&& 31))), (.ref b7), (.ref b9), (.ref b9)]))
    refine own_st (fun _ k => XS.aload X9.here hx rfl (hb hby at_96) rfl rfl k) ?_
    show own_Go p e below _ (T9.setTop (mkF m 98 #[.val (.long q0), .second, .val (.long q1), .second, .val (.int p2), .val (.long q3), .second, .val (.long q4), .second, .val (.int p5), .val (.ref b1), .val (.ref b3), .val (.int (1 : Int32)), .val (.ref b7), .unset, .unset] [(.ref b3), (.int (p5 >>> ((1 : Int32) &&& 31))), (.ref b7), (.ref b9), (.ref b9)]))
    obtain ⟨_, T10, L10, X10, hQ10, st10⟩ := own_callI X9 hx hZ (y := (⟨"com/example/rootward/rootward/store/Logged", "<init>", "(Lcom/example/rootward/rootward/log/LogPosition;ILcom/example/rootward/rootward/store/Logged;)V"⟩ : MethodName)) (a := b9) (argsL := [(.ref b7), (.int (p5 >>> ((1 : Int32) &&& 31))), (.ref b3)]) (rest := [(.ref b9)]) (W := 1) (g := (mkF m 98 #[.val (.long q0), .second, .val (.long q1), .second, .val (.int p2), .val (.long q3), .second, .val (.long q4), .second, .val (.int p5), .val (.ref b1), .val (.ref b3), .val (.int (1 : Int32)), .val (.ref b7), .unset, .unset] [(.ref b3), (.int (p5 >>> ((1 : Int32) &&& 31))), (.ref b7), (.ref b9), (.ref b9)])) (rmR l Z tA hw b9 b7 (p5 >>> ((1 : Int32) &&& 31)) b3 h9 n0 g_b9 A9 F_position_b9 F_length_b9 F_whole_b9) rfl hown (hw _ (List.mem_of_getElem? (i := 34) rfl)) (hw _ (List.mem_of_getElem? (i := 25) rfl)) (hw _ (List.mem_of_getElem? (i := 20) rfl)) (hw _ (List.mem_of_getElem? (i := 26) rfl)) (by decide) e9 rfl (by rw [hml]; rfl) pd_3 rfl rfl (by show 2 * 0 + _ ≤ _; exact Nat.le_of_eq rfl) (hb hby at_98) (by decide) (by decide) (by decide) (by decide)
    obtain ⟨h10, e10⟩ : ∃ z, T10.heap = z := ⟨_, rfl⟩
    rw [e10] at hQ10
    obtain ⟨rfl, Nq10, Kq10, Fq10_0, Fq10_1, Fq10_2⟩ := hQ10
    replace A1 := A1.keep Kq10
    replace Fq2_0 := Fq2_0.keep Kq10 (ninS ne_b1_b9 (nin0))
    replace Fq2_1 := Fq2_1.keep Kq10 (ninS ne_b1_b9 (nin0))
    replace A3 := A3.keep Kq10
    replace Fq4_0 := Fq4_0.keep Kq10 (ninS ne_b3_b9 (nin0))
    replace Fq4_1 := Fq4_1.keep Kq10 (ninS ne_b3_b9 (nin0))
    replace Fq4_2 := Fq4_2.keep Kq10 (ninS ne_b3_b9 (nin0))
    replace A7 := A7.keep Kq10
    replace Fq8_0 := Fq8_0.keep Kq10 (ninS ne_b7_b9 (nin0))
    replace Fq8_1 := Fq8_1.keep Kq10 (ninS ne_b7_b9 (nin0))
    replace A9 := A9.keep Kq10
    replace Z0 := Nat.le_trans Z0 Kq10.1
    replace N0 := Fr.app N0 Nq10
    refine own_st st10 ?_
    show own_Go p e below _ (T10.setTop (mkF m 101 #[.val (.long q0), .second, .val (.long q1), .second, .val (.int p2), .val (.long q3), .second, .val (.long q4), .second, .val (.int p5), .val (.ref b1), .val (.ref b3), .val (.int (1 : Int32)), .val (.ref b7), .unset, .unset] [(.ref b9)]))
    refine own_st (fun _ k => XS.astore X10.here hx rfl (hb hby at_101) rfl rfl (l' := #[.val (.long q0), .second, .val (.long q1), .second, .val (.int p2), .val (.long q3), .second, .val (.long q4), .second, .val (.int p5), .val (.ref b1), .val (.ref b3), .val (.int (1 : Int32)), .val (.ref b7), .val (.ref b9), .unset]) rfl k) ?_
    show own_Go p e below _ (T10.setTop (mkF m 103 #[.val (.long q0), .second, .val (.long q1), .second, .val (.int p2), .val (.long q3), .second, .val (.long q4), .second, .val (.int p5), .val (.ref b1), .val (.ref b3), .val (.int (1 : Int32)), .val (.ref b7), .val (.ref b9), .unset] []))
    refine own_st (fun _ k => XS.aload X10.here hx rfl (hb hby at_103) rfl rfl k) ?_
    show own_Go p e below _ (T10.setTop (mkF m 105 #[.val (.long q0), .second, .val (.long q1), .second, .val (.int p2), .val (.long q3), .second, .val (.long q4), .second, .val (.int p5), .val (.ref b1), .val (.ref b3), .val (.int (1 : Int32)), .val (.ref b7), .val (.ref b9), .unset] [(.ref b9)]))
    obtain ⟨_, T11, _, X11, ⟨rfl, rfl, e11⟩, st11⟩ := own_callV X10 hx hZ (y := (⟨"com/example/rootward/rootward/store/Logged", "wholeEntry", "()Lcom/example/rootward/rootward/store/Logged;"⟩ : MethodName)) (a := b9) (argsL := []) (rest := []) (W := 0) (g := (mkF m 105 #[.val (.long q0), .second, .val (.long q1), .second, .val (.int p2), .val (.long q3), .second, .val (.long q4), .second, .val (.int p5), .val (.ref b1), .val (.ref b3), .val (.int (1 : Int32)), .val (.ref b7), .val (.ref b9), .unset] [(.ref b9)])) (rmW1 l Z tA hw b9 b3 h10 Fq10_2) A9 hown (hw _ (List.mem_of_getElem? (i := 35) rfl)) (hw _ (List.mem_of_getElem? (i := 36) rfl)) (hw _ (List.mem_of_getElem? (i := 38) rfl)) (hw _ (List.mem_of_getElem? (i := 37) rfl)) (hw _ (List.mem_of_getElem? (i := 20) rfl)) (hw _ (List.mem_of_getElem? (i := 39) rfl)) (by decide) e10 rfl (by rw [hml]; rfl) pd_4 rfl rfl (by show 2 * 0 + _ ≤ _; exact Nat.le_of_eq rfl) (hb hby at_105) (by decide) (by decide) (by decide) (by decide)
    replace X11 := own_flat X11
    refine own_st st11 ?_
    show own_Go p e below _ (T11.setTop (mkF m 108 #[.val (.long q0), .second, .val (.long q1), .second, .val (.int p2), .val (.long q3), .second, .val (.long q4), .second, .val (.int p5), .val (.ref b1), .val (.ref b3), .val (.int (1 : Int32)), .val (.ref b7), .val (.ref b9), .unset] [(.ref b3)]))
    refine own_st (fun _ k => XS.astore X11.here hx rfl (hb hby at_108) rfl rfl (l' := #[.val (.long q0), .second, .val (.long q1), .second, .val (.int p2), .val (.long q3), .second, .val (.long q4), .second, .val (.int p5), .val (.ref b1), .val (.ref b3), .val (.int (1 : Int32)), .val (.ref b7), .val (.ref b9), .val (.ref b3)]) rfl k) ?_
    show own_Go p e below _ (T11.setTop (mkF m 110 #[.val (.long q0), .second, .val (.long q1), .second, .val (.int p2), .val (.long q3), .second, .val (.long q4), .second, .val (.int p5), .val (.ref b1), .val (.ref b3), .val (.int (1 : Int32)), .val (.ref b7), .val (.ref b9), .val (.ref b3)] []))
    refine own_st (fun _ k => XS.aload X11.here hx rfl (hb hby at_110) rfl rfl k) ?_
    show own_Go p e below _ (T11.setTop (mkF m 112 #[.val (.long q0), .second, .val (.long q1), .second, .val (.int p2), .val (.long q3), .second, .val (.long q4), .second, .val (.int p5), .val (.ref b1), .val (.ref b3), .val (.int (1 : Int32)), .val (.ref b7), .val (.ref b9), .val (.ref b3)] [(.ref b3)]))
    refine own_st (fun _ k => XS.aload X11.here hx rfl (hb hby at_112) rfl rfl k) ?_
    show own_Go p e below _ (T11.setTop (mkF m 114 #[.val (.long q0), .second, .val (.long q1), .second, .val (.int p2), .val (.long q3), .second, .val (.long q4), .second, .val (.int p5), .val (.ref b1), .val (.ref b3), .val (.int (1 : Int32)), .val (.ref b7), .val (.ref b9), .val (.ref b3)] [(.ref b3), (.ref b3)]))
    refine own_st (fun _ k => Jvm.RoadKit.acmp (g := (mkF m 114 #[.val (.long q0), .second, .val (.long q1), .second, .val (.int p2), .val (.long q3), .second, .val (.long q4), .second, .val (.int p5), .val (.ref b1), .val (.ref b3), .val (.int (1 : Int32)), .val (.ref b7), .val (.ref b9), .val (.ref b3)] [(.ref b3), (.ref b3)])) X11 hx rfl rfl rfl (pc0 := 114) (pc' := 117) (same := true) rfl (hb hby at_114) rfl (decide_eq_true rfl) (by decide) (by decide) k) ?_
    show own_Go p e below _ (T11.setTop (mkF m 117 #[.val (.long q0), .second, .val (.long q1), .second, .val (.int p2), .val (.long q3), .second, .val (.long q4), .second, .val (.int p5), .val (.ref b1), .val (.ref b3), .val (.int (1 : Int32)), .val (.ref b7), .val (.ref b9), .val (.ref b3)] []))
    refine own_st (fun _ k => XS.aload X11.here hx rfl (hb hby at_117) rfl rfl k) ?_
    show own_Go p e below _ (T11.setTop (mkF m 119 #[.val (.long q0), .second, .val (.long q1), .second, .val (.int p2), .val (.long q3), .second, .val (.long q4), .second, .val (.int p5), .val (.ref b1), .val (.ref b3), .val (.int (1 : Int32)), .val (.ref b7), .val (.ref b9), .val (.ref b3)] [(.ref b3)]))
    refine own_st (fun _ k => XS.aload X11.here hx rfl (hb hby at_119) rfl rfl k) ?_
    show own_Go p e below _ (T11.setTop (mkF m 121 #[.val (.long q0), .second, .val (.long q1), .second, .val (.int p2), .val (.long q3), .second, .val (.long q4), .second, .val (.int p5), .val (.ref b1), .val (.ref b3), .val (.int (1 : Int32)), .val (.ref b7), .val (.ref b9), .val (.ref b3)] [(.ref b9), (.ref b3)]))
    refine own_st (fun _ k => Jvm.RoadKit.acmp (g := (mkF m 121 #[.val (.long q0), .second, .val (.long q1), .second, .val (.int p2), .val (.long q3), .second, .val (.long q4), .second, .val (.int p5), .val (.ref b1), .val (.ref b3), .val (.int (1 : Int32)), .val (.ref b7), .val (.ref b9), .val (.ref b3)] [(.ref b9), (.ref b3)])) X11 hx rfl rfl rfl (pc0 := 121) (pc' := 124) (same := false) rfl (hb hby at_121) rfl (decide_eq_false fun q => ne_b3_b9 (Value.ref.inj q)) (by decide) (by decide) k) ?_
    show own_Go p e below _ (T11.setTop (mkF m 124 #[.val (.long q0), .second, .val (.long q1), .second, .val (.int p2), .val (.long q3), .second, .val (.long q4), .second, .val (.int p5), .val (.ref b1), .val (.ref b3), .val (.int (1 : Int32)), .val (.ref b7), .val (.ref b9), .val (.ref b3)] []))
    refine own_st (fun _ k => XS.aload X11.here hx rfl (hb hby at_124) rfl rfl k) ?_
    show own_Go p e below _ (T11.setTop (mkF m 126 #[.val (.long q0), .second, .val (.long q1), .second, .val (.int p2), .val (.long q3), .second, .val (.long q4), .second, .val (.int p5), .val (.ref b1), .val (.ref b3), .val (.int (1 : Int32)), .val (.ref b7), .val (.ref b9), .val (.ref b3)] [(.ref b3)]))
    obtain ⟨_, T12, _, X12, ⟨rfl, rfl, e12⟩, st12⟩ := own_callV X11 hx hZ (y := (⟨"com/example/rootward/rootward/store/Logged", "wholeEntry", "()Lcom/example/rootward/rootward/store/Logged;"⟩ : MethodName)) (a := b3) (argsL := []) (rest := []) (W := 0) (g := (mkF m 126 #[.val (.long q0), .second, .val (.long q1), .second, .val (.int p2), .val (.long q3), .second, .val (.long q4), .second, .val (.int p5), .val (.ref b1), .val (.ref b3), .val (.int (1 : Int32)), .val (.ref b7), .val (.ref b9), .val (.ref b3)] [(.ref b3)])) (rmW0 l Z tA hw b3 h10 Fq4_2) A3 hown (hw _ (List.mem_of_getElem? (i := 35) rfl)) (hw _ (List.mem_of_getElem? (i := 36) rfl)) (hw _ (List.mem_of_getElem? (i := 38) rfl)) (hw _ (List.mem_of_getElem? (i := 37) rfl)) (hw _ (List.mem_of_getElem? (i := 20) rfl)) (hw _ (List.mem_of_getElem? (i := 39) rfl)) (by decide) e11 rfl (by rw [hml]; rfl) pd_4 rfl rfl (by show 2 * 0 + _ ≤ _; exact Nat.le_of_eq rfl) (hb hby at_126) (by decide) (by decide) (by decide) (by decide)
    replace X12 := own_flat X12
    refine own_st st12 ?_
    show own_Go p e below _ (T12.setTop (mkF m 129 #[.val (.long q0), .second, .val (.long q1), .second, .val (.int p2), .val (.long q3), .second, .val (.long q4), .second, .val (.int p5), .val (.ref b1), .val (.ref b3), .val (.int (1 : Int32)), .val (.ref b7), .val (.ref b9), .val (.ref b3)] [(.ref b3)]))
    refine own_st (fun _ k => XS.aload X12.here hx rfl (hb hby at_129) rfl rfl k) ?_
    show own_Go p e below _ (T12.setTop (mkF m 131 #[.val (.long q0), .second, .val (.long q1), .second, .val (.int p2), .val (.long q3), .second, .val (.long q4), .second, .val (.int p5), .val (.ref b1), .val (.ref b3), .val (.int (1 : Int32)), .val (.ref b7), .val (.ref b9), .val (.ref b3)] [(.ref b3), (.ref b3)]))
    refine own_st (fun _ k => Jvm.RoadKit.acmp (g := (mkF m 131 #[.val (.long q0), .second, .val (.long q1), .second, .val (.int p2), .val (.long q3), .second, .val (.long q4), .second, .val (.int p5), .val (.ref b1), .val (.ref b3), .val (.int (1 : Int32)), .val (.ref b7), .val (.ref b9), .val (.ref b3)] [(.ref b3), (.ref b3)])) X12 hx rfl rfl rfl (pc0 := 131) (pc' := 134) (same := true) rfl (hb hby at_131) rfl (decide_eq_true rfl) (by decide) (by decide) k) ?_
    show own_Go p e below _ (T12.setTop (mkF m 134 #[.val (.long q0), .second, .val (.long q1), .second, .val (.int p2), .val (.long q3), .second, .val (.long q4), .second, .val (.int p5), .val (.ref b1), .val (.ref b3), .val (.int (1 : Int32)), .val (.ref b7), .val (.ref b9), .val (.ref b3)] []))
    refine own_st (fun _ k => XS.iconst X12.here hx rfl (hb hby at_134) k) ?_
    show own_Go p e below _ (T12.setTop (mkF m 135 #[.val (.long q0), .second, .val (.long q1), .second, .val (.int p2), .val (.long q3), .second, .val (.long q4), .second, .val (.int p5), .val (.ref b1), .val (.ref b3), .val (.int (1 : Int32)), .val (.ref b7), .val (.ref b9), .val (.ref b3)] [(.int (1 : Int32))]))
    refine own_st (fun _ k => XS.goto X12.here hx rfl (pc0 := 135) (pc' := 139) rfl (hb hby at_135) (by decide) (by decide) k) ?_
    show own_Go p e below _ (T12.setTop (mkF m 139 #[.val (.long q0), .second, .val (.long q1), .second, .val (.int p2), .val (.long q3), .second, .val (.long q4), .second, .val (.int p5), .val (.ref b1), .val (.ref b3), .val (.int (1 : Int32)), .val (.ref b7), .val (.ref b9), .val (.ref b3)] [(.int (1 : Int32))]))
    exact own_retZ X12 hx hlk hret rfl (hb hby at_139) ⟨rfl, N0⟩ (by decide) (by decide)
set_option maxRecDepth 65536 in
set_option maxHeartbeats 40000000 in
theorem comes_1 {Post : Tables → Env → Array Value → State → Outcome → State → Prop} (hpost : ∀ tb e args s v u, (limb_1_1.after args s (.returned v) u = true ∧ limb_1_2.after args s (.returned v) u = true ∧ True) → FrameEnd s (.returned v) u (Jvm.fieldLocs frame_1_writes args s ++ Jvm.arrayLocs frame_1_arrays args s ++ Jvm.staticLocs frame_1_statics s) 16 128 → Post tb e args s (.returned v) u) :
    ArmFor flags0 classFile x code maxLocals ret World_1 tables_1 room_1 Calls_1 rest_1 Pre_1 Post := by
  intro l hfl _ _ p e ha hc hk s m args below hf hA hF happ hP
  obtain ⟨hcalls, hrest, hpre⟩ := hP
  obtain ⟨-, -, -, hnamed, -, -, -, hat⟩ := (Spec.applies_iff hf).mp happ
  obtain ⟨hg, hn⟩ := and_e (Cond.before_iff.mp (show (Jvm.Cond.and given_1 narrow_1).before args s = true from hpre))
  obtain ⟨g1, g2⟩ := and_e hg
  obtain ⟨g3, g4⟩ := and_e g2
  obtain ⟨g5, g6⟩ := and_e g4
  obtain ⟨g7, g8⟩ := and_e g6
  obtain ⟨g9, g10⟩ := and_e g8
  obtain ⟨g11, g12⟩ := and_e g10
  obtain ⟨w0, w1, w2, w3, w4, w5, rfl⟩ : ∃ w0 w1 w2 w3 w4 w5 : Value, args = #[w0, w1, w2, w3, w4, w5] := by
    have hs : args.size = 6 := by simpa [Cond.value, given_1] using g1
    obtain ⟨L⟩ := args
    match L, hs with
    | [w0, w1, w2, w3, w4, w5], _ => exact ⟨w0, w1, w2, w3, w4, w5, rfl⟩
  have hw := fun d (hd : d ∈ tables_1) => atoms_spec (ws := Jvm.Cond.code x code maxLocals ret :: tables_1) hat d (List.mem_cons_of_mem _ hd)
  obtain ⟨i0, ei0⟩ := isL_v g3
  obtain rfl : w0 = (.long i0) := Option.some.inj ei0
  obtain ⟨i1, ei1⟩ := isL_v g5
  obtain rfl : w1 = (.long i1) := Option.some.inj ei1
  obtain ⟨i2, ei2⟩ := is_v g7
  obtain rfl : w2 = (.int i2) := Option.some.inj ei2
  obtain ⟨i3, ei3⟩ := isL_v g9
  obtain rfl : w3 = (.long i3) := Option.some.inj ei3
  obtain ⟨i4, ei4⟩ := isL_v g11
  obtain rfl : w4 = (.long i4) := Option.some.inj ei4
  obtain ⟨i5, ei5⟩ := is_v g12
  obtain rfl : w5 = (.int i5) := Option.some.inj ei5
  obtain ⟨n, o, h1, h2, h3, _, L, rfl, ⟨rfl, N⟩, hq⟩ := rm0 l s _ hw i0 i1 i2 i3 i4 i5 s.heap s.heap.size (Nat.le_refl _) p e ha hc hk s m _ below hf ((Spec.applies_iff_loose hf).mp happ).1 ⟨rfl, State.Warmed39.refl s, rfl⟩ trivial
  refine ⟨n, _, h1, h2, h3, hpost _ _ _ _ _ _ ⟨Cond.after_iff.mpr rfl, Cond.after_iff.mpr (eq_i res_at (Term.int_eval (1)) rfl), trivial⟩ ⟨hq.1, hq.2.1, (hq.2.2.sift fun y hy => Or.inr (N y hy)).mono (by decide) (by decide)⟩⟩
theorem main_1_1 : Claimed_1_1 := comes_1 fun _ _ _ _ _ _ h hF => ⟨h.1, hF⟩
theorem main_1_2 : Claimed_1_2 := comes_1 fun _ _ _ _ _ _ h hF => ⟨h.2.1, hF⟩
end Jvm.Pilot.@@N@@
namespace Jvm.Pilot.@@N@@
open Jvm Jvm.ClassFile Sem Op Lib Jvm.Free Jvm.Stand Jvm.Pilot.@@N@@.Jvm.D
/-! MADE BY PROGRAM (witnessworld.py) out of the Statement's table words and the real class files: 12 classes; the members and pool entries that the words name. The judged class is class 1, her method 1. -/
namespace start1
open Jvm.ClassFile
def u (s : String) : CpInfo := .utf8 (stringToUtf16 s)
/-- a pool by its gaps: so many unusable entries, then the entry; so many at the end -/
def gap : Nat → List CpInfo → List CpInfo
  | 0, r => r
  | n + 1, r => .unusable :: gap n r
def poolList (es : List (Nat × CpInfo)) (last : Nat) : List CpInfo := es.foldr (fun e r => gap e.1 (e.2 :: r)) (gap last [])
def pool (es : List (Nat × CpInfo)) (last : Nat) : Array CpInfo := ⟨poolList es last⟩
def fileOf (pool : Array CpInfo) (this : Nat) (attrs : Array Attribute := #[]) (ms : Array MethodInfo := #[]) (fl : Nat := 33) (sup : Nat := 0) (ifs : Array Nat := #[]) (fds : Array FieldInfo := #[]) : ClassFile where
  minorVersion := 0
  majorVersion := 65
  constantPool := pool
  accessFlags := fl
  thisClass := this
  superClass := sup
  interfaces := ifs
  fields := fds
  methods := ms
  attributes := attrs
def plain (name : String) (sup : Option ClassId) : Class where
  name := name
  kind := .ordinary
  loader := none
  accessFlags := 33
  super := sup
  interfaces := #[]
  cf := none
  fields := #[]
  methods := #[]
  instanceTypes := #[]
  staticTypes := #[]
  resolved := #[]
  callSites := []
  init := .initialized
  statics := none
  mirror := none

def pool0 : Array CpInfo := pool [(5, u "<init>"), (0, u "()V"), (1, .class_ 10), (1, u "java/lang/Object")] 113

def k0c0 : Code := { maxStack := 0, maxLocals := 1, code := object_method_1_code, exceptionTable := #[], attributes := #[] }
def k0m0 : Method := { name := "<init>", desc := "()V", sig := { parameters := [], returnType := none }, accessFlags := 1, code := some k0c0 }
/-- java/lang/Object -/
def k0 : Class := { plain "java/lang/Object" none with
  accessFlags := 33
  interfaces := #[]
  cf := some (fileOf pool0 8 #[] #[{ accessFlags := 1, nameIndex := 5, descriptorIndex := 6, attributes := #[] }] 33 0 #[] #[])
  fields := #[]
  methods := #[k0m0]
  instanceTypes := #[]
  staticTypes := #[]
  resolved := Array.replicate 124 none
  statics := none }

def pool1 : Array CpInfo := pool [(2, .class_ 4), (1, u "java/lang/Object"), (0, u "<init>"), (0, u "()V"), (0, .class_ 8), (0, u "com/example/rootward/rootward/log/LogPosition"), (0, .methodref 7 10), (0, .nameAndType 5 11), (0, u "(JJ)V"), (0, .class_ 13), (0, u "com/example/rootward/rootward/store/Logged"), (0, .methodref 12 15), (0, .nameAndType 5 16), (0, u "(Lcom/example/rootward/rootward/log/LogPosition;I)V"), (0, .methodref 12 18), (0, .nameAndType 19 20), (0, u "wholeEntry"), (0, u "()Lcom/example/rootward/rootward/store/Logged;"), (0, .methodref 12 22), (0, .nameAndType 5 23), (0, u "(Lcom/example/rootward/rootward/log/LogPosition;ILcom/example/rootward/rootward/store/Logged;)V"), (0, .class_ 25), (0, u "com/example/rootward/rootward/store/LoggedWholeEntryPinLaw"), (2, u "law"), (0, u "(JJIJJI)Z")] 3

def k1m0 : Method := { name := "<init>", desc := "()V", sig := { parameters := [], returnType := none }, accessFlags := 2, code := none }
def k1c1 : Code := { maxStack := 6, maxLocals := 16, code := code, exceptionTable := #[], attributes := #[] }
def k1m1 : Method := { name := "law", desc := "(JJIJJI)Z", sig := { parameters := [.long, .long, .int, .long, .long, .int], returnType := some .boolean }, accessFlags := 9, code := some k1c1 }
/-- com/example/rootward/rootward/store/LoggedWholeEntryPinLaw -/
def k1 : Class := { plain "com/example/rootward/rootward/store/LoggedWholeEntryPinLaw" (some 0) with
  accessFlags := 49
  interfaces := #[]
  cf := some (fileOf pool1 24 #[] #[{ accessFlags := 2, nameIndex := 5, descriptorIndex := 6, attributes := #[] }, { accessFlags := 9, nameIndex := 28, descriptorIndex := 29, attributes := #[] }] 49 2 #[] #[])
  fields := #[]
  methods := #[k1m0, k1m1]
  instanceTypes := #[]
  staticTypes := #[]
  resolved := Array.replicate 33 none
  statics := none }

def pool2 : Array CpInfo := pool [(1, .methodref 2 3), (0, .class_ 4), (0, .nameAndType 5 6), (0, u "java/lang/Object"), (0, u "<init>"), (0, u "()V"), (0, .class_ 8), (0, u "java/lang/Record")] 13

def k2c0 : Code := { maxStack := 1, maxLocals := 1, code := jdk_30_method_1_code, exceptionTable := #[], attributes := #[] }
def k2m0 : Method := { name := "<init>", desc := "()V", sig := { parameters := [], returnType := none }, accessFlags := 4, code := some k2c0 }
/-- java/lang/Record -/
def k2 : Class := { plain "java/lang/Record" (some 0) with
  accessFlags := 1057
  interfaces := #[]
  cf := some (fileOf pool2 7 #[] #[{ accessFlags := 4, nameIndex := 5, descriptorIndex := 6, attributes := #[] }] 1057 2 #[] #[])
  fields := #[]
  methods := #[k2m0]
  instanceTypes := #[]
  staticTypes := #[]
  resolved := Array.replicate 22 none
  statics := none }

def pool3 : Array CpInfo := pool [(1, .class_ 2), (0, u "java/lang/Comparable"), (0, .class_ 4), (0, u "java/lang/Object")] 7

/-- java/lang/Comparable -/
def k3 : Class := { plain "java/lang/Comparable" (some 0) with
  accessFlags := 1537
  interfaces := #[]
  cf := some (fileOf pool3 1 #[] #[] 1537 3 #[] #[])
  fields := #[]
  methods := #[]
  instanceTypes := #[]
  staticTypes := #[]
  resolved := Array.replicate 12 none
  statics := none }

def pool4 : Array CpInfo := pool [(1, .methodref 2 3), (0, .class_ 4), (0, .nameAndType 5 6), (0, u "java/lang/Record"), (0, u "<init>"), (0, u "()V"), (0, .fieldref 8 9), (0, .class_ 10), (0, .nameAndType 11 12), (0, u "com/example/rootward/rootward/log/LogPosition"), (0, u "file"), (0, u "J"), (0, .fieldref 8 14), (0, .nameAndType 15 12), (0, u "offset"), (2, u "ORDER"), (0, u "Ljava/util/Comparator;"), (39, .class_ 60), (0, u "java/lang/Comparable"), (2, u "(JJ)V")] 57

def k4c0 : Code := { maxStack := 3, maxLocals := 5, code := prog_23_method_1_code, exceptionTable := #[], attributes := #[] }
def k4m0 : Method := { name := "<init>", desc := "(JJ)V", sig := { parameters := [.long, .long], returnType := none }, accessFlags := 1, code := some k4c0 }
/-- com/example/rootward/rootward/log/LogPosition -/
def k4 : Class := { plain "com/example/rootward/rootward/log/LogPosition" (some 2) with
  accessFlags := 49
  interfaces := #[3]
  cf := some (fileOf pool4 8 #[] #[{ accessFlags := 1, nameIndex := 5, descriptorIndex := 63, attributes := #[] }] 49 2 #[59] #[{ accessFlags := 18, nameIndex := 11, descriptorIndex := 12, attributes := #[] }, { accessFlags := 18, nameIndex := 15, descriptorIndex := 12, attributes := #[] }, { accessFlags := 26, nameIndex := 18, descriptorIndex := 19, attributes := #[] }])
  fields := #[{ name := "file", type := .long, accessFlags := 18, slot := 0, constantValue := 0 }, { name := "offset", type := .long, accessFlags := 18, slot := 1, constantValue := 0 }, { name := "ORDER", type := (.object "java/util/Comparator"), accessFlags := 26, slot := 0, constantValue := 0 }]
  methods := #[k4m0]
  instanceTypes := #[.long, .long]
  staticTypes := #[(.object "java/util/Comparator")]
  resolved := Array.replicate 121 none
  statics := none }

def pool5 : Array CpInfo := pool [(1, .methodref 2 3), (0, .class_ 4), (0, .nameAndType 5 6), (0, u "java/lang/Record"), (0, u "<init>"), (0, u "()V"), (0, .fieldref 8 9), (0, .class_ 10), (0, .nameAndType 11 12), (0, u "com/example/rootward/rootward/store/Logged"), (0, u "position"), (0, u "Lcom/example/rootward/rootward/log/LogPosition;"), (0, .fieldref 8 14), (0, .nameAndType 15 16), (0, u "length"), (0, u "I"), (0, .fieldref 8 18), (0, .nameAndType 19 20), (0, u "whole"), (0, u "Lcom/example/rootward/rootward/store/Logged;"), (0, .methodref 8 22), (0, .nameAndType 5 23), (0, u "(Lcom/example/rootward/rootward/log/LogPosition;ILcom/example/rootward/rootward/store/Logged;)V"), (12, u "(Lcom/example/rootward/rootward/log/LogPosition;I)V"), (3, u "wholeEntry"), (0, u "()Lcom/example/rootward/rootward/store/Logged;")] 27

def k5c0 : Code := { maxStack := 4, maxLocals := 3, code := prog_49_method_1_code, exceptionTable := #[], attributes := #[] }
def k5m0 : Method := { name := "<init>", desc := "(Lcom/example/rootward/rootward/log/LogPosition;I)V", sig := { parameters := [(.object "com/example/rootward/rootward/log/LogPosition"), .int], returnType := none }, accessFlags := 0, code := some k5c0 }
def k5c1 : Code := { maxStack := 2, maxLocals := 4, code := prog_49_method_2_code, exceptionTable := #[], attributes := #[] }
def k5m1 : Method := { name := "<init>", desc := "(Lcom/example/rootward/rootward/log/LogPosition;ILcom/example/rootward/rootward/store/Logged;)V", sig := { parameters := [(.object "com/example/rootward/rootward/log/LogPosition"), .int, (.object "com/example/rootward/rootward/store/Logged")], returnType := none }, accessFlags := 0, code := some k5c1 }
def k5c2 : Code := { maxStack := 1, maxLocals := 1, code := prog_49_method_3_code, exceptionTable := #[], attributes := #[] }
def k5m2 : Method := { name := "wholeEntry", desc := "()Lcom/example/rootward/rootward/store/Logged;", sig := { parameters := [], returnType := some (.object "com/example/rootward/rootward/store/Logged") }, accessFlags := 0, code := some k5c2 }
/-- com/example/rootward/rootward/store/Logged -/
def k5 : Class := { plain "com/example/rootward/rootward/store/Logged" (some 2) with
  accessFlags := 48
  interfaces := #[]
  cf := some (fileOf pool5 8 #[] #[{ accessFlags := 0, nameIndex := 5, descriptorIndex := 36, attributes := #[] }, { accessFlags := 0, nameIndex := 5, descriptorIndex := 23, attributes := #[] }, { accessFlags := 0, nameIndex := 40, descriptorIndex := 41, attributes := #[] }] 48 2 #[] #[{ accessFlags := 18, nameIndex := 11, descriptorIndex := 12, attributes := #[] }, { accessFlags := 18, nameIndex := 15, descriptorIndex := 16, attributes := #[] }, { accessFlags := 18, nameIndex := 19, descriptorIndex := 20, attributes := #[] }])
  fields := #[{ name := "position", type := (.object "com/example/rootward/rootward/log/LogPosition"), accessFlags := 18, slot := 0, constantValue := 0 }, { name := "length", type := .int, accessFlags := 18, slot := 1, constantValue := 0 }, { name := "whole", type := (.object "com/example/rootward/rootward/store/Logged"), accessFlags := 18, slot := 2, constantValue := 0 }]
  methods := #[k5m0, k5m1, k5m2]
  instanceTypes := #[(.object "com/example/rootward/rootward/log/LogPosition"), .int, (.object "com/example/rootward/rootward/store/Logged")]
  staticTypes := #[]
  resolved := Array.replicate 69 none
  statics := none }

def pool6 : Array CpInfo := pool [(1, u "java/lang/Cloneable"), (0, .class_ 1), (0, u "java/lang/Object"), (0, .class_ 3)] 3

/-- java/lang/Cloneable -/
def k6 : Class := { plain "java/lang/Cloneable" (some 0) with
  accessFlags := 1537
  interfaces := #[]
  cf := some (fileOf pool6 2 #[] #[] 1537 4 #[] #[])
  fields := #[]
  methods := #[]
  instanceTypes := #[]
  staticTypes := #[]
  resolved := Array.replicate 8 none
  statics := none }

def pool7 : Array CpInfo := pool [(1, u "java/io/Serializable"), (0, .class_ 1), (0, u "java/lang/Object"), (0, .class_ 3)] 3

/-- java/io/Serializable -/
def k7 : Class := { plain "java/io/Serializable" (some 0) with
  accessFlags := 1537
  interfaces := #[]
  cf := some (fileOf pool7 2 #[] #[] 1537 4 #[] #[])
  fields := #[]
  methods := #[]
  instanceTypes := #[]
  staticTypes := #[]
  resolved := Array.replicate 8 none
  statics := none }

/-- the primitive byte -/
def k8 : Class := { plain "byte" none with kind := .primitive 'B', accessFlags := 0x411 }
/-- [B -/
def k9 : Class := { plain "[B" (some 0) with kind := .array 8 .byte, interfaces := #[6, 7], accessFlags := 1041 }

/-- the primitive int -/
def k10 : Class := { plain "int" none with kind := .primitive 'I', accessFlags := 0x411 }
/-- [I -/
def k11 : Class := { plain "[I" (some 0) with kind := .array 10 .int, interfaces := #[6, 7], accessFlags := 1041 }

def heap : Heap := #[]
def classes : Array Class := #[k0, k1, k2, k3, k4, k5, k6, k7, k8, k9, k10, k11]
def interned : List (Array UInt16 × Addr) := []
def slotsUsed : Nat := 0
def theMethod : MethodId := ⟨1, 1⟩
def args0 : Array Value := #[.long 5, .long 3, .int 8, .long 5, .long 3, .int 8]
def aboutOver (below : List Frame) : State where
  vm := { classes := classes, interned := interned.toArray }
  heap := heap
  slotsUsed := slotsUsed
  threads := #[{ frames := .invoking theMethod args0 :: below }]
def below0 : List Frame := [.native { method := ⟨0, 0⟩, args := #[] }]
def about1 : State := aboutOver below0
def p0 : Program := .bare "" "" ""
def e0 : Env := launch0.env 0 0 0
theorem w_frames : about1.frames = Frame.invoking theMethod args0 :: below0 := rfl
set_option maxRecDepth 65536 in
theorem w_args : argsFit about1.vm theMethod args0 = true := by decide +kernel
set_option maxRecDepth 65536 in
theorem w_heap : heapFits about1 = true := by decide +kernel
set_option maxRecDepth 65536 in
theorem w_runnable : about1.curStatus? = some .runnable := by decide +kernel
set_option maxRecDepth 65536 in
theorem w_alone : about1.alone = true := by decide +kernel
set_option maxRecDepth 65536 in
theorem w_named : about1.methodNamed? x = some theMethod := by decide +kernel
set_option maxRecDepth 65536 in
theorem w_hears : about1.hears theMethod below0 = true := by decide +kernel
set_option maxRecDepth 65536 in
theorem w_ripe : about1.ripe theMethod args0 below0 = true := by decide +kernel
theorem w_running : about1.status = .running := rfl
set_option maxRecDepth 65536 in
theorem w_room : about1.hasRoom e0.platform room_1 = true :=
  launch0.hasRoom_least _ room_1 (by decide +kernel) (by decide +kernel) (by decide +kernel) (by decide +kernel) (by decide +kernel) (by decide +kernel)
theorem allAtoms_all (ts : List Jvm.Cond) (a : Array Jvm.Value) (st : Jvm.State) : (allAtoms ts).before a st = ts.all (fun c => c.before a st) := by
  induction ts with
  | nil => rfl
  | cons c t ih =>
    show (Jvm.Cond.and c (allAtoms t)).before a st = _
    rw [Jvm.Cond.before_and, ih, List.all_cons]
def words1 : List Jvm.Cond := Jvm.Cond.code x code maxLocals ret :: tables_1
/-- a 'code' word, met by the world's own term for the bytes: nothing is compared byte by byte -/
theorem code_word {y : MethodName} {bytes : ByteArray} {mx : Nat} {rt : Option FieldType} {a : Array Value} {s : State} {m : MethodId} {meth : Method} {c : Code} (h1 : s.methodNamed? y = some m) (h2 : s.vm.method? m = some meth) (h3 : meth.code = some c) (h4 : c.code = bytes)
    (h5 : (c.maxLocals == mx && c.exceptionTable.isEmpty && decide (c.maxStack ≤ mostOperands) && decide (meth.sig.returnType = rt) && !meth.locks && decide (parseMethodDescriptor y.desc = some meth.sig)) = true) : (Jvm.Cond.code y bytes mx rt).before a s = true := by
  simp only [Bool.and_eq_true, beq_iff_eq, Bool.not_eq_true', decide_eq_true_eq] at h5
  obtain ⟨⟨⟨⟨⟨g1, g2⟩, g3⟩, g4⟩, g5⟩, g6⟩ := h5
  simp [Cond.before, Cond.holds, Cond.value, h1, h2, h3, h4, g1, g2, g3, g4, g5, g6]
def isCode : Jvm.Cond → Bool
  | .code _ _ _ _ => true
  | _ => false
theorem all_split {L : List Jvm.Cond} {P : Jvm.Cond → Bool} (h1 : L.all (fun c => isCode c || P c) = true) (h2 : ∀ c ∈ L.filter isCode, P c = true) : L.all P = true := by
  refine List.all_eq_true.mpr fun c hc => ?_
  have h := List.all_eq_true.mp h1 c hc
  rcases Bool.eq_false_or_eq_true (isCode c) with hi | hi
  · exact h2 c (List.mem_filter.mpr ⟨hc, hi⟩)
  · simpa [hi] using h
set_option maxRecDepth 65536 in
theorem w_c0 : (Jvm.Cond.code x code maxLocals ret).before args0 about1 = true := code_word (m := ⟨1, 1⟩) (meth := k1m1) (c := k1c1) (by decide +kernel) rfl rfl rfl (by decide +kernel)
set_option maxRecDepth 65536 in
theorem w_c1 : (Jvm.Cond.code ({ cls := "com/example/rootward/rootward/log/LogPosition", name := "<init>", desc := "(JJ)V" } : Jvm.MethodName) prog_23_method_1_code (5 : Nat) (Option.none : Option Jvm.ClassFile.FieldType)).before args0 about1 = true := code_word (m := ⟨4, 0⟩) (meth := k4m0) (c := k4c0) (by decide +kernel) rfl rfl rfl (by decide +kernel)
set_option maxRecDepth 65536 in
theorem w_c2 : (Jvm.Cond.code ({ cls := "java/lang/Record", name := "<init>", desc := "()V" } : Jvm.MethodName) jdk_30_method_1_code (1 : Nat) (Option.none : Option Jvm.ClassFile.FieldType)).before args0 about1 = true := code_word (m := ⟨2, 0⟩) (meth := k2m0) (c := k2c0) (by decide +kernel) rfl rfl rfl (by decide +kernel)
set_option maxRecDepth 65536 in
theorem w_c3 : (Jvm.Cond.code ({ cls := "java/lang/Object", name := "<init>", desc := "()V" } : Jvm.MethodName) object_method_1_code (1 : Nat) (Option.none : Option Jvm.ClassFile.FieldType)).before args0 about1 = true := code_word (m := ⟨0, 0⟩) (meth := k0m0) (c := k0c0) (by decide +kernel) rfl rfl rfl (by decide +kernel)
set_option maxRecDepth 65536 in
theorem w_c4 : (Jvm.Cond.code ({ cls := "com/example/rootward/rootward/store/Logged", name := "<init>", desc := "(Lcom/example/rootward/rootward/log/LogPosition;I)V" } : Jvm.MethodName) prog_49_method_1_code (3 : Nat) (Option.none : Option Jvm.ClassFile.FieldType)).before args0 about1 = true := code_word (m := ⟨5, 0⟩) (meth := k5m0) (c := k5c0) (by decide +kernel) rfl rfl rfl (by decide +kernel)
set_option maxRecDepth 65536 in
theorem w_c5 : (Jvm.Cond.code ({ cls := "com/example/rootward/rootward/store/Logged", name := "<init>", desc := "(Lcom/example/rootward/rootward/log/LogPosition;ILcom/example/rootward/rootward/store/Logged;)V" } : Jvm.MethodName) prog_49_method_2_code (4 : Nat) (Option.none : Option Jvm.ClassFile.FieldType)).before args0 about1 = true := code_word (m := ⟨5, 1⟩) (meth := k5m1) (c := k5c1) (by decide +kernel) rfl rfl rfl (by decide +kernel)
set_option maxRecDepth 65536 in
theorem w_c6 : (Jvm.Cond.code ({ cls := "com/example/rootward/rootward/store/Logged", name := "wholeEntry", desc := "()Lcom/example/rootward/rootward/store/Logged;" } : Jvm.MethodName) prog_49_method_3_code (1 : Nat) (Option.some (Jvm.ClassFile.FieldType.object "com/example/rootward/rootward/store/Logged"))).before args0 about1 = true := code_word (m := ⟨5, 2⟩) (meth := k5m2) (c := k5c2) (by decide +kernel) rfl rfl rfl (by decide +kernel)
def codes1 : List Jvm.Cond := [Jvm.Cond.code x code maxLocals ret, Jvm.Cond.code ({ cls := "com/example/rootward/rootward/log/LogPosition", name := "<init>", desc := "(JJ)V" } : Jvm.MethodName) prog_23_method_1_code (5 : Nat) (Option.none : Option Jvm.ClassFile.FieldType), Jvm.Cond.code ({ cls := "java/lang/Record", name := "<init>", desc := "()V" } : Jvm.MethodName) jdk_30_method_1_code (1 : Nat) (Option.none : Option Jvm.ClassFile.FieldType), Jvm.Cond.code ({ cls := "java/lang/Object", name := "<init>", desc := "()V" } : Jvm.MethodName) object_method_1_code (1 : Nat) (Option.none : Option Jvm.ClassFile.FieldType), Jvm.Cond.code ({ cls := "com/example/rootward/rootward/store/Logged", name := "<init>", desc := "(Lcom/example/rootward/rootward/log/LogPosition;I)V" } : Jvm.MethodName) prog_49_method_1_code (3 : Nat) (Option.none : Option Jvm.ClassFile.FieldType), Jvm.Cond.code ({ cls := "com/example/rootward/rootward/store/Logged", name := "<init>", desc := "(Lcom/example/rootward/rootward/log/LogPosition;ILcom/example/rootward/rootward/store/Logged;)V" } : Jvm.MethodName) prog_49_method_2_code (4 : Nat) (Option.none : Option Jvm.ClassFile.FieldType), Jvm.Cond.code ({ cls := "com/example/rootward/rootward/store/Logged", name := "wholeEntry", desc := "()Lcom/example/rootward/rootward/store/Logged;" } : Jvm.MethodName) prog_49_method_3_code (1 : Nat) (Option.some (Jvm.ClassFile.FieldType.object "com/example/rootward/rootward/store/Logged"))]
set_option maxRecDepth 65536 in
theorem codes_eq : words1.filter isCode = codes1 := rfl
theorem w_codes : ∀ c ∈ words1.filter isCode, c.before args0 about1 = true := by
  rw [codes_eq]
  intro c hc
  simp only [codes1, List.mem_cons, List.not_mem_nil, or_false] at hc
  rcases hc with rfl | rfl | rfl | rfl | rfl | rfl | rfl
  · exact w_c0
  · exact w_c1
  · exact w_c2
  · exact w_c3
  · exact w_c4
  · exact w_c5
  · exact w_c6
set_option maxRecDepth 65536 in
theorem w_t1 : (words1.take 24).all (fun c => isCode c || c.before args0 about1) = true := by decide +kernel
set_option maxRecDepth 65536 in
theorem w_t2 : (words1.drop 24).all (fun c => isCode c || c.before args0 about1) = true := by decide +kernel
theorem w_tables : (allAtoms (Jvm.Cond.code x code maxLocals ret :: tables_1)).before args0 about1 = true := by
  rw [allAtoms_all]
  show words1.all (fun c => c.before args0 about1) = true
  refine all_split ?_ w_codes
  rw [← List.take_append_drop 24 words1, List.all_append, w_t1, w_t2]
  rfl
set_option maxRecDepth 65536 in
theorem w_case : (Jvm.Cond.and given_1 narrow_1).before args0 about1 = true := by decide +kernel
theorem w_applies : (headSpec (Jvm.Cond.code x code maxLocals ret :: tables_1) room_1).applies x e0.platform about1 = true :=
  (Spec.applies_iff w_frames).mpr ⟨w_running, w_runnable, w_alone, w_named, w_hears, w_ripe, w_room, w_tables⟩
theorem atStart : AtStart classFile x code maxLocals ret World_1 tables_1 room_1 Calls_1 rest_1 Pre_1 launch0 p0 e0 about1 theMethod args0 below0 :=
  ⟨lists_1, trivial, launch0.admits_env _ _ _, launch0.least_env, fairChoices_fair.cas, fairChoices_fair.clock, w_frames, w_args, w_heap, w_applies, trivial, trivial, w_case⟩
end start1
theorem witness_1 : WitnessClaimed_1 := ⟨start1.p0, start1.e0, start1.about1, start1.theMethod, start1.args0, start1.below0, start1.atStart⟩
end Jvm.Pilot.@@N@@
