import JvmDerived
import JvmDerived.Pilot.@@N@@Statement
import JvmDerived.Pilot.@@N@@Code
set_option linter.unusedVariables false
set_option linter.unusedSimpArgs false
namespace Jvm.Pilot.@@N@@
open Jvm Jvm.ClassFile Sem Op Lib Jvm.Free Jvm.Stand Jvm.LawKit Jvm.RoadKit Bundle Jvm.Pilot.@@N@@.Jvm.D
section OwnKit
variable {p : Program} {l : Launch} {e : Env} {R : Room} {s : State} {m : MethodId} {args : Array Value} {below : List Frame} {meth : Method} {c : Code} {T : State} {locs : List Loc} {cells slots : Nat} {Z : State} {a0 : Array Value} {h : Heap}
/-- from the state U on the run comes to an end of which Q holds -/
def own_Go (p : Program) (e : Env) (below : List Frame) (Q : Outcome → State → Prop) (U : State) : Prop :=
  ∃ u o, Steps p.tables e below U u ∧ u.status = .running ∧ Ended u below o ∧ Q o u
theorem own_st {Q : Outcome → State → Prop} {U V : State} (k : ∀ t, Steps p.tables e below V t → Steps p.tables e below U t) (q : own_Go p e below Q V) : own_Go p e below Q U := by
  obtain ⟨u, o, h1, h2⟩ := q
  exact ⟨u, o, k _ h1, h2⟩
theorem own_tr {Q : Outcome → State → Prop} {U V : State} (k : Steps p.tables e below U V) (q : own_Go p e below Q V) : own_Go p e below Q U := by
  obtain ⟨u, o, h1, h2⟩ := q
  exact ⟨u, o, k.trans h1, h2⟩
/-- what a body leaves, said of its end -/
abbrev own_Post (s : State) (Qc : Option Value → Heap → List Loc → Prop) (k n : Nat) : Outcome → State → Prop := fun o u => ∃ v L, o = .returned v ∧ Qc v u.heap L ∧ FrameEnd s o u L k n
theorem own_body {y : MethodName} {bytes : ByteArray} {maxL : Nat} {ret : Option FieldType} {ws : List Jvm.Cond} {rm : Room} {as' : Array Value} {h0 : Heap} {Qc : Option Value → Heap → List Loc → Prop} {k n : Nat} (hpl : plainFor y = true)
    (body : ∀ (p : Program) (e : Env) (s : State) (m : MethodId) (below : List Frame) (meth : Method) (c : Code) (s₁ : State), Stand p l e rm s m as' below meth c s₁ [] 0 0 → p.tables.exec = Jvm.exec → Z.Warmed39 s.vm → c.code = bytes → c.maxLocals = maxL → s.vm.findClass y.cls = some m.cls →
      meth.sig.returnType = ret → meth.locks = false → meth.name = y.name → s₁.heap = h0 → own_Go p e below (own_Post s Qc k n) (s₁.setTop (entryFrame m as' maxL))) :
    MetFree l y (head1 (Jvm.Cond.code y bytes maxL ret :: ws) rm) (fun a U => a = as' ∧ Z.Warmed39 U.vm ∧ U.heap = h0) (fun _ _ _ _ _ => True) (fun _ U o U' => own_Post U Qc k n o U') := by
  refine MetFree.of_bodySF hpl hisR ?_
  intro p e s m args below meth c s₁ Bd hml0 hP hK
  obtain ⟨rfl, hZ, hh⟩ := hP
  exact body p e s m below meth c s₁ (Stand.of_body Bd) Bd.exec hZ Bd.bytes hml0 (findClass_of_methodNamed Bd.named) Bd.returns Bd.notSynchronized (name_of_methodNamed Bd.named Bd.method).1 (by rw [← hh, Bd.state]; rfl)
theorem own_end {Qc : Option Value → Heap → List Loc → Prop} {k n : Nat} {v : Option Value} (X : Stand p l e R s m args below meth c T locs cells slots) (hlk : meth.locks = false) (hv : meth.sig.returnType = none → v = none) {g : JFrame}
    (hst : ∀ fs, (∀ (f : JFrame) (acts : List Action), f.method = m → f.locked = none → f.entered = [] → (doReturn e (T.setTop f) acts v).1 = T.setFrames fs) → Steps p.tables e below (T.setTop g) (T.setFrames fs))
    (hQ : Qc v T.heap locs) (hk : cells ≤ k) (hn : slots ≤ n) : own_Go p e below (own_Post s Qc k n) (T.setTop g) := by
  obtain ⟨fs, hr, hrun, hended, hW, hsame⟩ := X.leave (v := v) hv hlk
  exact ⟨_, _, hst fs hr, hrun, hended, _, _, rfl, hQ, ⟨_, rfl⟩, hW, hsame.mono hk hn⟩
theorem own_retI {Qc : Option Value → Heap → List Loc → Prop} {k n : Nat} (X : Stand p l e R s m args below meth c T locs cells slots) (hx : p.tables.exec = Jvm.exec) (hlk : meth.locks = false) (hret : meth.sig.returnType = some .int) {pc : Nat} {Ls : Array Slot} {z : Int32} {rest : List Value}
    (hd : decode c.code pc = .ok (.ireturn, 1)) (hQ : Qc (some (.int z)) T.heap locs) (hk : cells ≤ k) (hn : slots ≤ n) : own_Go p e below (own_Post s Qc k n) (T.setTop (mkF m pc Ls (.int z :: rest))) :=
  own_end X hlk (fun q => by rw [hret] at q; cases q) (fun fs hr => retOut X hx hret (w := .int z) (t := .int) rfl (Or.inl ⟨rfl, Or.inl rfl, z, rfl⟩) hd hr) hQ hk hn
theorem own_retZ {Qc : Option Value → Heap → List Loc → Prop} {k n : Nat} (X : Stand p l e R s m args below meth c T locs cells slots) (hx : p.tables.exec = Jvm.exec) (hlk : meth.locks = false) (hret : meth.sig.returnType = some .boolean) {pc : Nat} {Ls : Array Slot} {z : Int32} {rest : List Value}
    (hz : narrow .boolean (.int z) = .int z) (hd : decode c.code pc = .ok (.ireturn, 1)) (hQ : Qc (some (.int z)) T.heap locs) (hk : cells ≤ k) (hn : slots ≤ n) : own_Go p e below (own_Post s Qc k n) (T.setTop (mkF m pc Ls (.int z :: rest))) :=
  own_end X hlk (fun q => by rw [hret] at q; cases q) (fun fs hr => retOut X hx hret (w := .int z) (t := .boolean) hz (Or.inl ⟨rfl, Or.inr (Or.inl rfl), z, rfl⟩) hd hr) hQ hk hn
theorem own_retJ {Qc : Option Value → Heap → List Loc → Prop} {k n : Nat} (X : Stand p l e R s m args below meth c T locs cells slots) (hx : p.tables.exec = Jvm.exec) (hlk : meth.locks = false) (hret : meth.sig.returnType = some .long) {pc : Nat} {Ls : Array Slot} {z : Int64} {rest : List Value}
    (hd : decode c.code pc = .ok (.lreturn, 1)) (hQ : Qc (some (.long z)) T.heap locs) (hk : cells ≤ k) (hn : slots ≤ n) : own_Go p e below (own_Post s Qc k n) (T.setTop (mkF m pc Ls (.long z :: rest))) :=
  own_end X hlk (fun q => by rw [hret] at q; cases q) (fun fs hr => retOut X hx hret (w := .long z) (t := .long) rfl (Or.inr (Or.inl ⟨rfl, rfl, z, rfl⟩)) hd hr) hQ hk hn
theorem own_retA {Qc : Option Value → Heap → List Loc → Prop} {k n : Nat} (X : Stand p l e R s m args below meth c T locs cells slots) (hx : p.tables.exec = Jvm.exec) (hlk : meth.locks = false) {t : FieldType} (hret : meth.sig.returnType = some t) (ht : t.isReference = true) {pc : Nat} {Ls : Array Slot} {w : Value} (hw : w.isRef = true)
    (hd : decode c.code pc = .ok (.areturn, 1)) (hQ : Qc (some w) T.heap locs) (hk : cells ≤ k) (hn : slots ≤ n) : own_Go p e below (own_Post s Qc k n) (T.setTop (mkF m pc Ls [w])) :=
  own_end X hlk (fun q => by rw [hret] at q; cases q) (fun fs hr => X.areturnOut hx hw hret ht hd hr) hQ hk hn
theorem own_retV {Qc : Option Value → Heap → List Loc → Prop} {k n : Nat} (X : Stand p l e R s m args below meth c T locs cells slots) (hx : p.tables.exec = Jvm.exec) (hlk : meth.locks = false) (hret : meth.sig.returnType = none) {pc : Nat} {Ls : Array Slot}
    (hd : decode c.code pc = .ok (.return_, 1)) (hQ : Qc none T.heap locs) (hk : cells ≤ k) (hn : slots ≤ n) : own_Go p e below (own_Post s Qc k n) (T.setTop (mkF m pc Ls [])) :=
  own_end X hlk (fun _ => rfl) (fun fs hr => X.returnOut hx hret hd hr) hQ hk hn
/-- a callee's contract, as own_body proves it and the three calls below spend it -/
abbrev own_Met (l : Launch) (Z : State) (y : MethodName) (bytes : ByteArray) (maxL : Nat) (ret : Option FieldType) (rm : Room) (as' : Array Value) (h0 : Heap) (Qc : Option Value → Heap → List Loc → Prop) : Prop :=
  MetFree l y (head1 [Jvm.Cond.code y bytes maxL ret] rm) (fun a U => a = as' ∧ Z.Warmed39 U.vm ∧ U.heap = h0) (fun _ _ _ _ _ => True) (fun _ U o U' => own_Post U Qc rm.cells rm.slots o U')
theorem own_callS (X : Stand p l e R s m args below meth c T locs cells slots) (hx : p.tables.exec = Jvm.exec) (hZ : Z.Warmed39 s.vm) {own : String} {index : Nat} {y : MethodName} {bytes : ByteArray} {maxL : Nat} {ret : Option FieldType} {rm : Room} {Qc : Option Value → Heap → List Loc → Prop} {argsL rest : List Value} {ps : List FieldType} {W : Nat} {g : JFrame}
    (hM : own_Met l Z y bytes maxL ret rm argsL.toArray h Qc) (hown : s.vm.findClass own = some m.cls) (w1 : (Jvm.Cond.methodLink own index y).before a0 Z = true) (w2 : (Jvm.Cond.static y).before a0 Z = true) (w3 : (Jvm.Cond.initialized y.cls).before a0 Z = true) (w4 : (Jvm.Cond.code y bytes maxL ret).before a0 Z = true)
    (hy : y.cls ≠ "java/lang/invoke/MethodHandle" ∧ y.cls ≠ "java/lang/invoke/VarHandle") (eT : T.heap = h) (hg : g.method = m) (hsize : g.locals.size = c.maxLocals) (hdesc : parseMethodDescriptor y.desc = some ⟨ps, ret⟩) (hlen : argsL.length = ps.length) (hstack : g.stack = argsL.reverse ++ rest)
    (hW : 2 * g.monitorRoom + (rest.map fun v => v.category).sum ≤ W) (hdg : decode c.code g.pc = .ok (.invokestatic index, 3)) (hf : rm.frames + 1 ≤ R.frames) (hl : W + (maxL + 11) + rm.locals ≤ R.locals) (hc : cells + rm.cells ≤ R.cells) (hs : slots + rm.slots ≤ R.slots) :
    ∃ v T' L, Stand p l e R s m args below meth c T' (locs ++ L) (cells + rm.cells) (slots + rm.slots) ∧ Qc v T'.heap L ∧ ∀ target, Steps p.tables e below (T'.setTop { g with pc := g.pc + 3, stack := v.toList ++ rest }) target → Steps p.tables e below (T.setTop g) target := by
  obtain ⟨v, _, ⟨T1, L1, k1, n1⟩, -, X1, ⟨L, hQ, q1, q2, q3⟩, st⟩ := Jvm.LawKit.callS X hx (y := y) hown (mvT hZ w1) (mvT hZ w2) (mvT hZ w3) (mvT hZ w4) hy (backOf (W := W) hM hZ w4 w3 hf hl) (g := g) hg hsize (lenOf hdesc hlen) hstack hW hdg (fun _ _ => ⟨rfl, eT, hc, hs⟩)
  dsimp only [Pt.U, Pt.locs, Pt.cells, Pt.slots] at X1 q1 q2 q3 st hQ
  subst q1 q2 q3
  exact ⟨v, T1, L, X1, hQ, st⟩
theorem own_callI (X : Stand p l e R s m args below meth c T locs cells slots) (hx : p.tables.exec = Jvm.exec) (hZ : Z.Warmed39 s.vm) {own : String} {index : Nat} {y : MethodName} {bytes : ByteArray} {maxL : Nat} {rm : Room} {Qc : Option Value → Heap → List Loc → Prop} {a : Addr} {argsL rest : List Value} {ps : List FieldType} {W : Nat} {g : JFrame}
    (hM : own_Met l Z y bytes maxL none rm (.ref a :: argsL).toArray h Qc) (hn : y.name = "<init>") (hown : s.vm.findClass own = some m.cls) (w1 : (Jvm.Cond.methodLink own index y).before a0 Z = true) (w2 : (Jvm.Cond.instanceMethod y).before a0 Z = true) (w3 : (Jvm.Cond.initialized y.cls).before a0 Z = true) (w4 : (Jvm.Cond.code y bytes maxL none).before a0 Z = true)
    (hy : y.cls ≠ "java/lang/invoke/MethodHandle" ∧ y.cls ≠ "java/lang/invoke/VarHandle") (eT : T.heap = h) (hg : g.method = m) (hsize : g.locals.size = c.maxLocals) (hdesc : parseMethodDescriptor y.desc = some ⟨ps, none⟩) (hlen : argsL.length = ps.length) (hstack : g.stack = argsL.reverse ++ .ref a :: rest)
    (hW : 2 * g.monitorRoom + (rest.map fun v => v.category).sum ≤ W) (hdg : decode c.code g.pc = .ok (.invokespecial index, 3)) (hf : rm.frames + 1 ≤ R.frames) (hl : W + (maxL + 11) + rm.locals ≤ R.locals) (hc : cells + rm.cells ≤ R.cells) (hs : slots + rm.slots ≤ R.slots) :
    ∃ v T' L, Stand p l e R s m args below meth c T' (locs ++ L) (cells + rm.cells) (slots + rm.slots) ∧ Qc v T'.heap L ∧ ∀ target, Steps p.tables e below (T'.setTop { g with pc := g.pc + 3, stack := v.toList ++ rest }) target → Steps p.tables e below (T.setTop g) target := by
  obtain ⟨v, _, ⟨T1, L1, k1, n1⟩, -, X1, ⟨L, hQ, q1, q2, q3⟩, st⟩ := X.specialBack hx (y := y) hn hown (mvT hZ w1) (mvT hZ w2) (mvT hZ w4) hy (backOf (W := W) hM hZ w4 w3 hf hl) (g := g) hg hsize (Steps.refl _) (a := a) (lenOf hdesc hlen) hstack hW hdg (fun _ _ => ⟨rfl, eT, hc, hs⟩)
  dsimp only [Pt.U, Pt.locs, Pt.cells, Pt.slots] at X1 q1 q2 q3 st hQ
  subst q1 q2 q3
  exact ⟨v, T1, L, X1, hQ, fun _ q => st.trans q⟩
theorem own_callV (X : Stand p l e R s m args below meth c T locs cells slots) (hx : p.tables.exec = Jvm.exec) (hZ : Z.Warmed39 s.vm) {own : String} {index : Nat} {y : MethodName} {bytes : ByteArray} {maxL : Nat} {ret : Option FieldType} {rm : Room} {Qc : Option Value → Heap → List Loc → Prop} {a : Addr} {argsL rest : List Value} {ps : List FieldType} {W : Nat} {g : JFrame}
    (hM : own_Met l Z y bytes maxL ret rm (.ref a :: argsL).toArray h Qc) (E : Exa Z h a y.cls) (hown : s.vm.findClass own = some m.cls) (w1 : (Jvm.Cond.methodLink own index y).before a0 Z = true) (w2 : (Jvm.Cond.declares y).before a0 Z = true) (w3 : (Jvm.Cond.selects y.cls y y).before a0 Z = true) (w4 : (Jvm.Cond.instanceMethod y).before a0 Z = true) (w5 : (Jvm.Cond.initialized y.cls).before a0 Z = true) (w6 : (Jvm.Cond.code y bytes maxL ret).before a0 Z = true)
    (hy : y.cls ≠ "java/lang/invoke/MethodHandle" ∧ y.cls ≠ "java/lang/invoke/VarHandle") (eT : T.heap = h) (hg : g.method = m) (hsize : g.locals.size = c.maxLocals) (hdesc : parseMethodDescriptor y.desc = some ⟨ps, ret⟩) (hlen : argsL.length = ps.length) (hstack : g.stack = argsL.reverse ++ .ref a :: rest)
    (hW : 2 * g.monitorRoom + (rest.map fun v => v.category).sum ≤ W) (hdg : decode c.code g.pc = .ok (.invokevirtual index, 3)) (hf : rm.frames + 1 ≤ R.frames) (hl : W + (maxL + 11) + rm.locals ≤ R.locals) (hc : cells + rm.cells ≤ R.cells) (hs : slots + rm.slots ≤ R.slots) :
    ∃ v T' L, Stand p l e R s m args below meth c T' (locs ++ L) (cells + rm.cells) (slots + rm.slots) ∧ Qc v T'.heap L ∧ ∀ target, Steps p.tables e below (T'.setTop { g with pc := g.pc + 3, stack := v.toList ++ rest }) target → Steps p.tables e below (T.setTop g) target := by
  obtain ⟨cq, kq, qa, qb, qc⟩ := isOf hZ eT E
  obtain ⟨v, _, ⟨T1, L1, k1, n1⟩, -, X1, ⟨L, hQ, q1, q2, q3⟩, st⟩ := X.virtualBack hx (y := y) (z := y) hown (mvT hZ w1) (mvT hZ w2) (notFace_of_selects (args := #[]) (mvT hZ w3)) (mvT hZ w3) (mvT hZ w4) hy (backOf (W := W) hM hZ w6 w5 hf hl) qa qc (g := g) hg hsize (Steps.refl _) (lenOf hdesc hlen) hstack hW hdg (fun _ _ => ⟨rfl, eT, hc, hs⟩)
  dsimp only [Pt.U, Pt.locs, Pt.cells, Pt.slots] at X1 q1 q2 q3 st hQ
  subst q1 q2 q3
  exact ⟨v, T1, L, X1, hQ, fun _ q => st.trans q⟩
/-- what a body that writes nothing leaves -/
abbrev own_P (v : Option Value) (h : Heap) : Option Value → Heap → List Loc → Prop := fun w h' L => w = v ∧ L = [] ∧ h' = h
theorem own_flat (X : Stand p l e R s m args below meth c T (locs ++ []) (cells + 0) (slots + 0)) : Stand p l e R s m args below meth c T locs cells slots := by
  rw [List.append_nil] at X
  exact X
def own_c32 : ClassFile.Cond → Int32 → Int32 → Bool
  | .lt, x, y => decide (x < y)
  | .ge, x, y => !decide (x < y)
  | .gt, x, y => decide (y < x)
  | .le, x, y => !decide (y < x)
  | .eq, x, y => decide (x = y)
  | .ne, x, y => !decide (x = y)
def own_c64 : ClassFile.Cond → Int64 → Int64 → Bool
  | .lt, x, y => decide (x < y)
  | .ge, x, y => !decide (x < y)
  | .gt, x, y => decide (y < x)
  | .le, x, y => !decide (y < x)
  | .eq, x, y => decide (x = y)
  | .ne, x, y => !decide (x = y)
theorem own_yes {P : Prop} [Decidable P] (q : P) : decide P = true := decide_eq_true q
theorem own_no {P : Prop} [Decidable P] (q : ¬ P) : decide P = false := decide_eq_false q
theorem own_nyes {P : Prop} [Decidable P] (q : P) : (!decide P) = false := by rw [decide_eq_true q]; rfl
theorem own_nno {P : Prop} [Decidable P] (q : ¬ P) : (!decide P) = true := by rw [decide_eq_false q]; rfl
theorem own_i2 (cd : ClassFile.Cond) (x y : Int32) : if_icmp.holds cd x y = own_c32 cd x y := by
  cases cd
  case lt => by_cases q : x < y; · exact (tlt q).1.trans (own_yes q).symm
             · exact (flt q).1.trans (own_no q).symm
  case ge => by_cases q : x < y; · exact (tlt q).2.1.trans (own_nyes q).symm
             · exact (flt q).2.1.trans (own_nno q).symm
  case gt => by_cases q : y < x; · exact (tlt q).2.2.1.trans (own_yes q).symm
             · exact (flt q).2.2.1.trans (own_no q).symm
  case le => by_cases q : y < x; · exact (tlt q).2.2.2.trans (own_nyes q).symm
             · exact (flt q).2.2.2.trans (own_nno q).symm
  case eq => by_cases q : x = y; · exact (teq q).1.trans (own_yes q).symm
             · exact (feq q).1.trans (own_no q).symm
  case ne => by_cases q : x = y; · exact (teq q).2.trans (own_nyes q).symm
             · exact (feq q).2.trans (own_nno q).symm
theorem own_i0 (cd : ClassFile.Cond) (x : Int32) : ifCond.holds cd x = own_c32 cd x 0 := (if0 cd x).trans (own_i2 cd x 0)
theorem own_l0 (cd : ClassFile.Cond) (x y : Int64) : ifCond.holds cd (lcmpW x y) = own_c64 cd x y := by
  rw [own_i0]
  have q1 := lw_lt x y
  have q2 := lw_gt x y
  have q3 := lw_eq x y
  cases cd <;> simp only [own_c32, own_c64, q1, q2, q3]
theorem own_ldI {a : Addr} {k : ClassId} {z j : Int32} {vs : List Value} {dv : Value} (F : Arv Z h a k .int z vs dv) (q : ¬ j < 0 ∧ j < z) : ∃ (cl : Cell) (v : Int32), Arr Z h a cl .int ∧ ¬ (j < 0 ∨ cl.slots.size ≤ j.toNatClampNeg) ∧ cl.slots[j.toNatClampNeg]? = some (.int v) := by
  obtain ⟨cl, A, -, S, M, H, G⟩ := F
  have hin := inb_of S q
  have hlt : j.toNatClampNeg < cl.slots.size := Nat.lt_of_not_le fun y => hin (Or.inr y)
  obtain ⟨v, hv⟩ := fit_I (G _ hlt) (Or.inl rfl)
  exact ⟨cl, v, A, hin, by rw [H _ hlt, hv]⟩
theorem own_len {a : Addr} {k : ClassId} {ty : FieldType} {z : Int32} {vs : List Value} {dv : Value} (F : Arv Z h a k ty z vs dv) : ∃ cl : Cell, Arr Z h a cl ty ∧ cl.slots.size = z.toNatClampNeg ∧ ¬ z < 0 := by
  obtain ⟨cl, A, -, S, M, -, -⟩ := F
  exact ⟨cl, A, S, M⟩
theorem own_at {a : Addr} {k : ClassId} {ty : FieldType} {z j : Int32} {vs : List Value} {dv : Value} (F : Arv Z h a k ty z vs dv) (q : ¬ j < 0 ∧ j < z) {i : Nat} (hj : j.toNatClampNeg = i) {v : Value} (hv : vs.getD i dv = v) : ∃ cl : Cell, Arr Z h a cl ty ∧ ¬ (j < 0 ∨ cl.slots.size ≤ j.toNatClampNeg) ∧ cl.slots[j.toNatClampNeg]? = some v := by
  obtain ⟨cl, A, -, S, M, H, -⟩ := F
  have hin := inb_of S q
  have hlt : j.toNatClampNeg < cl.slots.size := Nat.lt_of_not_le fun y => hin (Or.inr y)
  refine ⟨cl, A, hin, ?_⟩
  rw [H _ hlt, hj, hv]
end OwnKit

theorem pd_0 : parseMethodDescriptor "(I)Z" = some ⟨[.int], some .boolean⟩ := by decide +kernel
def own_a_189 (p0 : Int32) : Int32 := (0 : Int32)
def own_a_185 (p0 : Int32) : Int32 := (1 : Int32)
def own_a_173 (p0 : Int32) : Int32 := (if p0 < (65536 : Int32) then (own_a_189 p0) else (if (983039 : Int32) < p0 then (own_a_189 p0) else (own_a_185 p0)))
def own_a_161 (p0 : Int32) : Int32 := (if p0 < (65008 : Int32) then (own_a_173 p0) else (if (65533 : Int32) < p0 then (own_a_173 p0) else (own_a_185 p0)))
def own_a_149 (p0 : Int32) : Int32 := (if p0 < (63744 : Int32) then (own_a_161 p0) else (if (64975 : Int32) < p0 then (own_a_161 p0) else (own_a_185 p0)))
def own_a_136 (p0 : Int32) : Int32 := (if p0 < (12289 : Int32) then (own_a_149 p0) else (if (55295 : Int32) < p0 then (own_a_149 p0) else (own_a_185 p0)))
def own_a_122 (p0 : Int32) : Int32 := (if p0 < (11264 : Int32) then (own_a_136 p0) else (if (12271 : Int32) < p0 then (own_a_136 p0) else (own_a_185 p0)))
def own_a_108 (p0 : Int32) : Int32 := (if p0 < (8304 : Int32) then (own_a_122 p0) else (if (8591 : Int32) < p0 then (own_a_122 p0) else (own_a_185 p0)))
def own_a_94 (p0 : Int32) : Int32 := (if p0 < (8204 : Int32) then (own_a_108 p0) else (if (8205 : Int32) < p0 then (own_a_108 p0) else (own_a_185 p0)))
def own_a_80 (p0 : Int32) : Int32 := (if p0 < (895 : Int32) then (own_a_94 p0) else (if (8191 : Int32) < p0 then (own_a_94 p0) else (own_a_185 p0)))
def own_a_66 (p0 : Int32) : Int32 := (if p0 < (880 : Int32) then (own_a_80 p0) else (if (893 : Int32) < p0 then (own_a_80 p0) else (own_a_185 p0)))
def own_a_52 (p0 : Int32) : Int32 := (if p0 < (248 : Int32) then (own_a_66 p0) else (if (767 : Int32) < p0 then (own_a_66 p0) else (own_a_185 p0)))
def own_a_38 (p0 : Int32) : Int32 := (if p0 < (216 : Int32) then (own_a_52 p0) else (if (246 : Int32) < p0 then (own_a_52 p0) else (own_a_185 p0)))
def own_a_24 (p0 : Int32) : Int32 := (if p0 < (192 : Int32) then (own_a_38 p0) else (if (214 : Int32) < p0 then (own_a_38 p0) else (own_a_185 p0)))
def own_a_12 (p0 : Int32) : Int32 := (if p0 < (65 : Int32) then (own_a_24 p0) else (if (90 : Int32) < p0 then (own_a_24 p0) else (own_a_185 p0)))
def own_a_0 (p0 : Int32) : Int32 := (if p0 < (97 : Int32) then (own_a_12 p0) else (if (122 : Int32) < p0 then (own_a_12 p0) else (own_a_185 p0)))
theorem d1_0 : decode prog_63_method_2_code 0 = .ok (.iload_n 0, 1) := by decide +kernel
theorem d1_1 : decode prog_63_method_2_code 1 = .ok (.bipush 97, 2) := by decide +kernel
theorem d1_3 : decode prog_63_method_2_code 3 = .ok (.if_icmp .lt 9, 3) := by decide +kernel
theorem d1_6 : decode prog_63_method_2_code 6 = .ok (.iload_n 0, 1) := by decide +kernel
theorem d1_7 : decode prog_63_method_2_code 7 = .ok (.bipush 122, 2) := by decide +kernel
theorem d1_9 : decode prog_63_method_2_code 9 = .ok (.if_icmp .le 176, 3) := by decide +kernel
theorem d1_12 : decode prog_63_method_2_code 12 = .ok (.iload_n 0, 1) := by decide +kernel
theorem d1_13 : decode prog_63_method_2_code 13 = .ok (.bipush 65, 2) := by decide +kernel
theorem d1_15 : decode prog_63_method_2_code 15 = .ok (.if_icmp .lt 9, 3) := by decide +kernel
theorem d1_18 : decode prog_63_method_2_code 18 = .ok (.iload_n 0, 1) := by decide +kernel
theorem d1_19 : decode prog_63_method_2_code 19 = .ok (.bipush 90, 2) := by decide +kernel
theorem d1_21 : decode prog_63_method_2_code 21 = .ok (.if_icmp .le 164, 3) := by decide +kernel
theorem d1_24 : decode prog_63_method_2_code 24 = .ok (.iload_n 0, 1) := by decide +kernel
theorem d1_25 : decode prog_63_method_2_code 25 = .ok (.sipush 192, 3) := by decide +kernel
theorem d1_28 : decode prog_63_method_2_code 28 = .ok (.if_icmp .lt 10, 3) := by decide +kernel
theorem d1_31 : decode prog_63_method_2_code 31 = .ok (.iload_n 0, 1) := by decide +kernel
theorem d1_32 : decode prog_63_method_2_code 32 = .ok (.sipush 214, 3) := by decide +kernel
theorem d1_35 : decode prog_63_method_2_code 35 = .ok (.if_icmp .le 150, 3) := by decide +kernel
theorem d1_38 : decode prog_63_method_2_code 38 = .ok (.iload_n 0, 1) := by decide +kernel
theorem d1_39 : decode prog_63_method_2_code 39 = .ok (.sipush 216, 3) := by decide +kernel
theorem d1_42 : decode prog_63_method_2_code 42 = .ok (.if_icmp .lt 10, 3) := by decide +kernel
theorem d1_45 : decode prog_63_method_2_code 45 = .ok (.iload_n 0, 1) := by decide +kernel
theorem d1_46 : decode prog_63_method_2_code 46 = .ok (.sipush 246, 3) := by decide +kernel
theorem d1_49 : decode prog_63_method_2_code 49 = .ok (.if_icmp .le 136, 3) := by decide +kernel
theorem d1_52 : decode prog_63_method_2_code 52 = .ok (.iload_n 0, 1) := by decide +kernel
theorem d1_53 : decode prog_63_method_2_code 53 = .ok (.sipush 248, 3) := by decide +kernel
theorem d1_56 : decode prog_63_method_2_code 56 = .ok (.if_icmp .lt 10, 3) := by decide +kernel
theorem d1_59 : decode prog_63_method_2_code 59 = .ok (.iload_n 0, 1) := by decide +kernel
theorem d1_60 : decode prog_63_method_2_code 60 = .ok (.sipush 767, 3) := by decide +kernel
theorem d1_63 : decode prog_63_method_2_code 63 = .ok (.if_icmp .le 122, 3) := by decide +kernel
theorem d1_66 : decode prog_63_method_2_code 66 = .ok (.iload_n 0, 1) := by decide +kernel
theorem d1_67 : decode prog_63_method_2_code 67 = .ok (.sipush 880, 3) := by decide +kernel
theorem d1_70 : decode prog_63_method_2_code 70 = .ok (.if_icmp .lt 10, 3) := by decide +kernel
theorem d1_73 : decode prog_63_method_2_code 73 = .ok (.iload_n 0, 1) := by decide +kernel
theorem d1_74 : decode prog_63_method_2_code 74 = .ok (.sipush 893, 3) := by decide +kernel
theorem d1_77 : decode prog_63_method_2_code 77 = .ok (.if_icmp .le 108, 3) := by decide +kernel
theorem d1_80 : decode prog_63_method_2_code 80 = .ok (.iload_n 0, 1) := by decide +kernel
theorem d1_81 : decode prog_63_method_2_code 81 = .ok (.sipush 895, 3) := by decide +kernel
theorem d1_84 : decode prog_63_method_2_code 84 = .ok (.if_icmp .lt 10, 3) := by decide +kernel
theorem d1_87 : decode prog_63_method_2_code 87 = .ok (.iload_n 0, 1) := by decide +kernel
theorem d1_88 : decode prog_63_method_2_code 88 = .ok (.sipush 8191, 3) := by decide +kernel
theorem d1_91 : decode prog_63_method_2_code 91 = .ok (.if_icmp .le 94, 3) := by decide +kernel
theorem d1_94 : decode prog_63_method_2_code 94 = .ok (.iload_n 0, 1) := by decide +kernel
theorem d1_95 : decode prog_63_method_2_code 95 = .ok (.sipush 8204, 3) := by decide +kernel
theorem d1_98 : decode prog_63_method_2_code 98 = .ok (.if_icmp .lt 10, 3) := by decide +kernel
theorem d1_101 : decode prog_63_method_2_code 101 = .ok (.iload_n 0, 1) := by decide +kernel
theorem d1_102 : decode prog_63_method_2_code 102 = .ok (.sipush 8205, 3) := by decide +kernel
theorem d1_105 : decode prog_63_method_2_code 105 = .ok (.if_icmp .le 80, 3) := by decide +kernel
theorem d1_108 : decode prog_63_method_2_code 108 = .ok (.iload_n 0, 1) := by decide +kernel
theorem d1_109 : decode prog_63_method_2_code 109 = .ok (.sipush 8304, 3) := by decide +kernel
theorem d1_112 : decode prog_63_method_2_code 112 = .ok (.if_icmp .lt 10, 3) := by decide +kernel
theorem d1_115 : decode prog_63_method_2_code 115 = .ok (.iload_n 0, 1) := by decide +kernel
theorem d1_116 : decode prog_63_method_2_code 116 = .ok (.sipush 8591, 3) := by decide +kernel
theorem d1_119 : decode prog_63_method_2_code 119 = .ok (.if_icmp .le 66, 3) := by decide +kernel
theorem d1_122 : decode prog_63_method_2_code 122 = .ok (.iload_n 0, 1) := by decide +kernel
theorem d1_123 : decode prog_63_method_2_code 123 = .ok (.sipush 11264, 3) := by decide +kernel
theorem d1_126 : decode prog_63_method_2_code 126 = .ok (.if_icmp .lt 10, 3) := by decide +kernel
theorem d1_129 : decode prog_63_method_2_code 129 = .ok (.iload_n 0, 1) := by decide +kernel
theorem d1_130 : decode prog_63_method_2_code 130 = .ok (.sipush 12271, 3) := by decide +kernel
theorem d1_133 : decode prog_63_method_2_code 133 = .ok (.if_icmp .le 52, 3) := by decide +kernel
theorem d1_136 : decode prog_63_method_2_code 136 = .ok (.iload_n 0, 1) := by decide +kernel
theorem d1_137 : decode prog_63_method_2_code 137 = .ok (.sipush 12289, 3) := by decide +kernel
theorem d1_140 : decode prog_63_method_2_code 140 = .ok (.if_icmp .lt 9, 3) := by decide +kernel
theorem d1_143 : decode prog_63_method_2_code 143 = .ok (.iload_n 0, 1) := by decide +kernel
theorem d1_144 : decode prog_63_method_2_code 144 = .ok (.ldc 7, 2) := by decide +kernel
theorem d1_146 : decode prog_63_method_2_code 146 = .ok (.if_icmp .le 39, 3) := by decide +kernel
theorem d1_149 : decode prog_63_method_2_code 149 = .ok (.iload_n 0, 1) := by decide +kernel
theorem d1_150 : decode prog_63_method_2_code 150 = .ok (.ldc 8, 2) := by decide +kernel
theorem d1_152 : decode prog_63_method_2_code 152 = .ok (.if_icmp .lt 9, 3) := by decide +kernel
theorem d1_155 : decode prog_63_method_2_code 155 = .ok (.iload_n 0, 1) := by decide +kernel
theorem d1_156 : decode prog_63_method_2_code 156 = .ok (.ldc 9, 2) := by decide +kernel
theorem d1_158 : decode prog_63_method_2_code 158 = .ok (.if_icmp .le 27, 3) := by decide +kernel
theorem d1_161 : decode prog_63_method_2_code 161 = .ok (.iload_n 0, 1) := by decide +kernel
theorem d1_162 : decode prog_63_method_2_code 162 = .ok (.ldc 10, 2) := by decide +kernel
theorem d1_164 : decode prog_63_method_2_code 164 = .ok (.if_icmp .lt 9, 3) := by decide +kernel
theorem d1_167 : decode prog_63_method_2_code 167 = .ok (.iload_n 0, 1) := by decide +kernel
theorem d1_168 : decode prog_63_method_2_code 168 = .ok (.ldc 11, 2) := by decide +kernel
theorem d1_170 : decode prog_63_method_2_code 170 = .ok (.if_icmp .le 15, 3) := by decide +kernel
theorem d1_173 : decode prog_63_method_2_code 173 = .ok (.iload_n 0, 1) := by decide +kernel
theorem d1_174 : decode prog_63_method_2_code 174 = .ok (.ldc 12, 2) := by decide +kernel
theorem d1_176 : decode prog_63_method_2_code 176 = .ok (.if_icmp .lt 13, 3) := by decide +kernel
theorem d1_179 : decode prog_63_method_2_code 179 = .ok (.iload_n 0, 1) := by decide +kernel
theorem d1_180 : decode prog_63_method_2_code 180 = .ok (.ldc 13, 2) := by decide +kernel
theorem d1_182 : decode prog_63_method_2_code 182 = .ok (.if_icmp .gt 7, 3) := by decide +kernel
theorem d1_185 : decode prog_63_method_2_code 185 = .ok (.iconst 1, 1) := by decide +kernel
theorem d1_186 : decode prog_63_method_2_code 186 = .ok (.goto 4, 3) := by decide +kernel
theorem d1_189 : decode prog_63_method_2_code 189 = .ok (.iconst 0, 1) := by decide +kernel
theorem d1_190 : decode prog_63_method_2_code 190 = .ok (.ireturn, 1) := by decide +kernel
theorem pn_1 : plainFor (⟨"com/example/hornbeam/hornbeam/rdf/NameCharacters", "isPnCharsBase", "(I)Z"⟩ : MethodName) = true := plainFor_of_name (by first | (simp [plainName, overriddenIn]; done) | decide +kernel)
theorem ef_1 (m : MethodId) (x0 : Int32) : entryFrame m #[(.int x0)] 1 = mkF m 0 #[.val (.int x0)] [] := by first | (simp [entryFrame, mkF, argsToLocals, Value.category]; done) | rfl
set_option maxRecDepth 65536 in
set_option maxHeartbeats 40000000 in
theorem rm1 (l : Launch) (Z : State) (tA : Array Value) (hw : ∀ d ∈ tables_1, d.before tA Z = true) (p0 : Int32) (h0 : Heap) :
    own_Met l Z (⟨"com/example/hornbeam/hornbeam/rdf/NameCharacters", "isPnCharsBase", "(I)Z"⟩ : MethodName) prog_63_method_2_code 1 (some .boolean) ({ frames := 0, cells := 0, slots := 0, locals := 0 } : Room) #[(.int p0)] h0 (own_P (some (.int (own_a_0 p0))) h0) := by
  refine own_body pn_1 ?_
  intro p e s m below meth c s₁ X0 hx hZ hby hml hown hret hlk hnm e0
  have B189 : ∀ (T0 : State), Stand p l e ({ frames := 0, cells := 0, slots := 0, locals := 0 } : Room) s m #[(.int p0)] below meth c T0 [] 0 0 → T0.heap = h0 → own_a_189 p0 = own_a_0 p0 → own_Go p e below (own_Post s (own_P (some (.int (own_a_0 p0))) h0) ({ frames := 0, cells := 0, slots := 0, locals := 0 } : Room).cells ({ frames := 0, cells := 0, slots := 0, locals := 0 } : Room).slots) (T0.setTop (mkF m 189 #[.val (.int p0)] [])) := by
    intro T0 X0 e0 hbk
    show own_Go p e below _ (T0.setTop (mkF m 189 #[.val (.int p0)] []))
    refine own_st (fun _ k => XS.iconst X0.here hx rfl (hb hby d1_189) k) ?_
    show own_Go p e below _ (T0.setTop (mkF m 190 #[.val (.int p0)] [(.int (0 : Int32))]))
    exact own_retZ X0 hx hlk hret rfl (hb hby d1_190) ⟨congrArg (fun z => some (Value.int z)) ((show own_a_189 p0 = (0 : Int32) from rfl).symm.trans hbk), rfl, e0⟩ (by decide) (by decide)
  have B185 : ∀ (T0 : State), Stand p l e ({ frames := 0, cells := 0, slots := 0, locals := 0 } : Room) s m #[(.int p0)] below meth c T0 [] 0 0 → T0.heap = h0 → own_a_185 p0 = own_a_0 p0 → own_Go p e below (own_Post s (own_P (some (.int (own_a_0 p0))) h0) ({ frames := 0, cells := 0, slots := 0, locals := 0 } : Room).cells ({ frames := 0, cells := 0, slots := 0, locals := 0 } : Room).slots) (T0.setTop (mkF m 185 #[.val (.int p0)] [])) := by
    intro T0 X0 e0 hbk
    show own_Go p e below _ (T0.setTop (mkF m 185 #[.val (.int p0)] []))
    refine own_st (fun _ k => XS.iconst X0.here hx rfl (hb hby d1_185) k) ?_
    show own_Go p e below _ (T0.setTop (mkF m 186 #[.val (.int p0)] [(.int (1 : Int32))]))
    refine own_st (fun _ k => XS.goto X0.here hx rfl (pc0 := 186) (pc' := 190) rfl (hb hby d1_186) (by decide) (by decide) k) ?_
    show own_Go p e below _ (T0.setTop (mkF m 190 #[.val (.int p0)] [(.int (1 : Int32))]))
    exact own_retZ X0 hx hlk hret rfl (hb hby d1_190) ⟨congrArg (fun z => some (Value.int z)) ((show own_a_185 p0 = (1 : Int32) from rfl).symm.trans hbk), rfl, e0⟩ (by decide) (by decide)
  have B173 : ∀ (T0 : State), Stand p l e ({ frames := 0, cells := 0, slots := 0, locals := 0 } : Room) s m #[(.int p0)] below meth c T0 [] 0 0 → T0.heap = h0 → own_a_173 p0 = own_a_0 p0 → own_Go p e below (own_Post s (own_P (some (.int (own_a_0 p0))) h0) ({ frames := 0, cells := 0, slots := 0, locals := 0 } : Room).cells ({ frames := 0, cells := 0, slots := 0, locals := 0 } : Room).slots) (T0.setTop (mkF m 173 #[.val (.int p0)] [])) := by
    intro T0 X0 e0 hbk
    show own_Go p e below _ (T0.setTop (mkF m 173 #[.val (.int p0)] []))
    refine own_st (fun _ k => XS.iloadN X0.here hx rfl (hb hby d1_173) rfl k) ?_
    show own_Go p e below _ (T0.setTop (mkF m 174 #[.val (.int p0)] [(.int p0)]))
    refine own_st (fun _ k => X0.ldcInt hx hown (mvT hZ (hw _ (List.mem_of_getElem? (i := 8) rfl))) (g := (mkF m 174 #[.val (.int p0)] [(.int p0)])) rfl (hb hby d1_174) _ k) ?_
    show own_Go p e below _ (T0.setTop (mkF m 176 #[.val (.int p0)] [(.int (65536 : Int32)), (.int p0)]))
    by_cases hc176 : p0 < (65536 : Int32)
    · refine own_st (fun _ k => XS.icmpYes X0.here hx rfl (pc0 := 176) (pc' := 189) rfl (hb hby d1_176) rfl ((own_i2 _ _ _).trans (own_yes hc176)) (by decide) (by decide) k) ?_
      show own_Go p e below _ (T0.setTop (mkF m 189 #[.val (.int p0)] []))
      exact B189 T0 X0 e0 ((show own_a_173 p0 = own_a_189 p0 from (if_pos hc176)).symm.trans hbk)
    · refine own_st (fun _ k => XS.icmpNo X0.here hx rfl (hb hby d1_176) rfl ((own_i2 _ _ _).trans (own_no hc176)) k) ?_
      show own_Go p e below _ (T0.setTop (mkF m 179 #[.val (.int p0)] []))
      refine own_st (fun _ k => XS.iloadN X0.here hx rfl (hb hby d1_179) rfl k) ?_
      show own_Go p e below _ (T0.setTop (mkF m 180 #[.val (.int p0)] [(.int p0)]))
      refine own_st (fun _ k => X0.ldcInt hx hown (mvT hZ (hw _ (List.mem_of_getElem? (i := 20) rfl))) (g := (mkF m 180 #[.val (.int p0)] [(.int p0)])) rfl (hb hby d1_180) _ k) ?_
      show own_Go p e below _ (T0.setTop (mkF m 182 #[.val (.int p0)] [(.int (983039 : Int32)), (.int p0)]))
      by_cases hc182 : (983039 : Int32) < p0
      · refine own_st (fun _ k => XS.icmpYes X0.here hx rfl (pc0 := 182) (pc' := 189) rfl (hb hby d1_182) rfl ((own_i2 _ _ _).trans (own_yes hc182)) (by decide) (by decide) k) ?_
        show own_Go p e below _ (T0.setTop (mkF m 189 #[.val (.int p0)] []))
        exact B189 T0 X0 e0 ((show own_a_173 p0 = own_a_189 p0 from ((if_neg hc176)).trans ((if_pos hc182))).symm.trans hbk)
      · refine own_st (fun _ k => XS.icmpNo X0.here hx rfl (hb hby d1_182) rfl ((own_i2 _ _ _).trans (own_no hc182)) k) ?_
        show own_Go p e below _ (T0.setTop (mkF m 185 #[.val (.int p0)] []))
        exact B185 T0 X0 e0 ((show own_a_173 p0 = own_a_185 p0 from ((if_neg hc176)).trans ((if_neg hc182))).symm.trans hbk)
  have B161 : ∀ (T0 : State), Stand p l e ({ frames := 0, cells := 0, slots := 0, locals := 0 } : Room) s m #[(.int p0)] below meth c T0 [] 0 0 → T0.heap = h0 → own_a_161 p0 = own_a_0 p0 → own_Go p e below (own_Post s (own_P (some (.int (own_a_0 p0))) h0) ({ frames := 0, cells := 0, slots := 0, locals := 0 } : Room).cells ({ frames := 0, cells := 0, slots := 0, locals := 0 } : Room).slots) (T0.setTop (mkF m 161 #[.val (.int p0)] [])) := by
    intro T0 X0 e0 hbk
    show own_Go p e below _ (T0.setTop (mkF m 161 #[.val (.int p0)] []))
    refine own_st (fun _ k => XS.iloadN X0.here hx rfl (hb hby d1_161) rfl k) ?_
    show own_Go p e below _ (T0.setTop (mkF m 162 #[.val (.int p0)] [(.int p0)]))
    refine own_st (fun _ k => X0.ldcInt hx hown (mvT hZ (hw _ (List.mem_of_getElem? (i := 7) rfl))) (g := (mkF m 162 #[.val (.int p0)] [(.int p0)])) rfl (hb hby d1_162) _ k) ?_
    show own_Go p e below _ (T0.setTop (mkF m 164 #[.val (.int p0)] [(.int (65008 : Int32)), (.int p0)]))
    by_cases hc164 : p0 < (65008 : Int32)
    · refine own_st (fun _ k => XS.icmpYes X0.here hx rfl (pc0 := 164) (pc' := 173) rfl (hb hby d1_164) rfl ((own_i2 _ _ _).trans (own_yes hc164)) (by decide) (by decide) k) ?_
      show own_Go p e below _ (T0.setTop (mkF m 173 #[.val (.int p0)] []))
      exact B173 T0 X0 e0 ((show own_a_161 p0 = own_a_173 p0 from (if_pos hc164)).symm.trans hbk)
    · refine own_st (fun _ k => XS.icmpNo X0.here hx rfl (hb hby d1_164) rfl ((own_i2 _ _ _).trans (own_no hc164)) k) ?_
      show own_Go p e below _ (T0.setTop (mkF m 167 #[.val (.int p0)] []))
      refine own_st (fun _ k => XS.iloadN X0.here hx rfl (hb hby d1_167) rfl k) ?_
      show own_Go p e below _ (T0.setTop (mkF m 168 #[.val (.int p0)] [(.int p0)]))
      refine own_st (fun _ k => X0.ldcInt hx hown (mvT hZ (hw _ (List.mem_of_getElem? (i := 19) rfl))) (g := (mkF m 168 #[.val (.int p0)] [(.int p0)])) rfl (hb hby d1_168) _ k) ?_
      show own_Go p e below _ (T0.setTop (mkF m 170 #[.val (.int p0)] [(.int (65533 : Int32)), (.int p0)]))
      by_cases hc170 : (65533 : Int32) < p0
      · refine own_st (fun _ k => XS.icmpNo X0.here hx rfl (hb hby d1_170) rfl ((own_i2 _ _ _).trans (own_nyes hc170)) k) ?_
        show own_Go p e below _ (T0.setTop (mkF m 173 #[.val (.int p0)] []))
        exact B173 T0 X0 e0 ((show own_a_161 p0 = own_a_173 p0 from ((if_neg hc164)).trans ((if_pos hc170))).symm.trans hbk)
      · refine own_st (fun _ k => XS.icmpYes X0.here hx rfl (pc0 := 170) (pc' := 185) rfl (hb hby d1_170) rfl ((own_i2 _ _ _).trans (own_nno hc170)) (by decide) (by decide) k) ?_
        show own_Go p e below _ (T0.setTop (mkF m 185 #[.val (.int p0)] []))
        exact B185 T0 X0 e0 ((show own_a_161 p0 = own_a_185 p0 from ((if_neg hc164)).trans ((if_neg hc170))).symm.trans hbk)
  have B149 : ∀ (T0 : State), Stand p l e ({ frames := 0, cells := 0, slots := 0, locals := 0 } : Room) s m #[(.int p0)] below meth c T0 [] 0 0 → T0.heap = h0 → own_a_149 p0 = own_a_0 p0 → own_Go p e below (own_Post s (own_P (some (.int (own_a_0 p0))) h0) ({ frames := 0, cells := 0, slots := 0, locals := 0 } : Room).cells ({ frames := 0, cells := 0, slots := 0, locals := 0 } : Room).slots) (T0.setTop (mkF m 149 #[.val (.int p0)] [])) := by
    intro T0 X0 e0 hbk
    show own_Go p e below _ (T0.setTop (mkF m 149 #[.val (.int p0)] []))
    refine own_st (fun _ k => XS.iloadN X0.here hx rfl (hb hby d1_149) rfl k) ?_
    show own_Go p e below _ (T0.setTop (mkF m 150 #[.val (.int p0)] [(.int p0)]))
    refine own_st (fun _ k => X0.ldcInt hx hown (mvT hZ (hw _ (List.mem_of_getElem? (i := 6) rfl))) (g := (mkF m 150 #[.val (.int p0)] [(.int p0)])) rfl (hb hby d1_150) _ k) ?_
    show own_Go p e below _ (T0.setTop (mkF m 152 #[.val (.int p0)] [(.int (63744 : Int32)), (.int p0)]))
    by_cases hc152 : p0 < (63744 : Int32)
    · refine own_st (fun _ k => XS.icmpYes X0.here hx rfl (pc0 := 152) (pc' := 161) rfl (hb hby d1_152) rfl ((own_i2 _ _ _).trans (own_yes hc152)) (by decide) (by decide) k) ?_
      show own_Go p e below _ (T0.setTop (mkF m 161 #[.val (.int p0)] []))
      exact B161 T0 X0 e0 ((show own_a_149 p0 = own_a_161 p0 from (if_pos hc152)).symm.trans hbk)
    · refine own_st (fun _ k => XS.icmpNo X0.here hx rfl (hb hby d1_152) rfl ((own_i2 _ _ _).trans (own_no hc152)) k) ?_
      show own_Go p e below _ (T0.setTop (mkF m 155 #[.val (.int p0)] []))
      refine own_st (fun _ k => XS.iloadN X0.here hx rfl (hb hby d1_155) rfl k) ?_
      show own_Go p e below _ (T0.setTop (mkF m 156 #[.val (.int p0)] [(.int p0)]))
      refine own_st (fun _ k => X0.ldcInt hx hown (mvT hZ (hw _ (List.mem_of_getElem? (i := 18) rfl))) (g := (mkF m 156 #[.val (.int p0)] [(.int p0)])) rfl (hb hby d1_156) _ k) ?_
      show own_Go p e below _ (T0.setTop (mkF m 158 #[.val (.int p0)] [(.int (64975 : Int32)), (.int p0)]))
      by_cases hc158 : (64975 : Int32) < p0
      · refine own_st (fun _ k => XS.icmpNo X0.here hx rfl (hb hby d1_158) rfl ((own_i2 _ _ _).trans (own_nyes hc158)) k) ?_
        show own_Go p e below _ (T0.setTop (mkF m 161 #[.val (.int p0)] []))
        exact B161 T0 X0 e0 ((show own_a_149 p0 = own_a_161 p0 from ((if_neg hc152)).trans ((if_pos hc158))).symm.trans hbk)
      · refine own_st (fun _ k => XS.icmpYes X0.here hx rfl (pc0 := 158) (pc' := 185) rfl (hb hby d1_158) rfl ((own_i2 _ _ _).trans (own_nno hc158)) (by decide) (by decide) k) ?_
        show own_Go p e below _ (T0.setTop (mkF m 185 #[.val (.int p0)] []))
        exact B185 T0 X0 e0 ((show own_a_149 p0 = own_a_185 p0 from ((if_neg hc152)).trans ((if_neg hc158))).symm.trans hbk)
  have B136 : ∀ (T0 : State), Stand p l e ({ frames := 0, cells := 0, slots := 0, locals := 0 } : Room) s m #[(.int p0)] below meth c T0 [] 0 0 → T0.heap = h0 → own_a_136 p0 = own_a_0 p0 → own_Go p e below (own_Post s (own_P (some (.int (own_a_0 p0))) h0) ({ frames := 0, cells := 0, slots := 0, locals := 0 } : Room).cells ({ frames := 0, cells := 0, slots := 0, locals := 0 } : Room).slots) (T0.setTop (mkF m 136 #[.val (.int p0)] [])) := by
    intro T0 X0 e0 hbk
    show own_Go p e below _ (T0.setTop (mkF m 136 #[.val (.int p0)] []))
    refine own_st (fun _ k => XS.iloadN X0.here hx rfl (hb hby d1_136) rfl k) ?_
    show own_Go p e below _ (T0.setTop (mkF m 137 #[.val (.int p0)] [(.int p0)]))
    refine own_st (fun _ k => XS.sipush X0.here hx rfl (hb hby d1_137) k) ?_
    show own_Go p e below _ (T0.setTop (mkF m 140 #[.val (.int p0)] [(.int (12289 : Int32)), (.int p0)]))
    by_cases hc140 : p0 < (12289 : Int32)
    · refine own_st (fun _ k => XS.icmpYes X0.here hx rfl (pc0 := 140) (pc' := 149) rfl (hb hby d1_140) rfl ((own_i2 _ _ _).trans (own_yes hc140)) (by decide) (by decide) k) ?_
      show own_Go p e below _ (T0.setTop (mkF m 149 #[.val (.int p0)] []))
      exact B149 T0 X0 e0 ((show own_a_136 p0 = own_a_149 p0 from (if_pos hc140)).symm.trans hbk)
    · refine own_st (fun _ k => XS.icmpNo X0.here hx rfl (hb hby d1_140) rfl ((own_i2 _ _ _).trans (own_no hc140)) k) ?_
      show own_Go p e below _ (T0.setTop (mkF m 143 #[.val (.int p0)] []))
      refine own_st (fun _ k => XS.iloadN X0.here hx rfl (hb hby d1_143) rfl k) ?_
      show own_Go p e below _ (T0.setTop (mkF m 144 #[.val (.int p0)] [(.int p0)]))
      refine own_st (fun _ k => X0.ldcInt hx hown (mvT hZ (hw _ (List.mem_of_getElem? (i := 17) rfl))) (g := (mkF m 144 #[.val (.int p0)] [(.int p0)])) rfl (hb hby d1_144) _ k) ?_
      show own_Go p e below _ (T0.setTop (mkF m 146 #[.val (.int p0)] [(.int (55295 : Int32)), (.int p0)]))
      by_cases hc146 : (55295 : Int32) < p0
      · refine own_st (fun _ k => XS.icmpNo X0.here hx rfl (hb hby d1_146) rfl ((own_i2 _ _ _).trans (own_nyes hc146)) k) ?_
        show own_Go p e below _ (T0.setTop (mkF m 149 #[.val (.int p0)] []))
        exact B149 T0 X0 e0 ((show own_a_136 p0 = own_a_149 p0 from ((if_neg hc140)).trans ((if_pos hc146))).symm.trans hbk)
      · refine own_st (fun _ k => XS.icmpYes X0.here hx rfl (pc0 := 146) (pc' := 185) rfl (hb hby d1_146) rfl ((own_i2 _ _ _).trans (own_nno hc146)) (by decide) (by decide) k) ?_
        show own_Go p e below _ (T0.setTop (mkF m 185 #[.val (.int p0)] []))
        exact B185 T0 X0 e0 ((show own_a_136 p0 = own_a_185 p0 from ((if_neg hc140)).trans ((if_neg hc146))).symm.trans hbk)
  have B122 : ∀ (T0 : State), Stand p l e ({ frames := 0, cells := 0, slots := 0, locals := 0 } : Room) s m #[(.int p0)] below meth c T0 [] 0 0 → T0.heap = h0 → own_a_122 p0 = own_a_0 p0 → own_Go p e below (own_Post s (own_P (some (.int (own_a_0 p0))) h0) ({ frames := 0, cells := 0, slots := 0, locals := 0 } : Room).cells ({ frames := 0, cells := 0, slots := 0, locals := 0 } : Room).slots) (T0.setTop (mkF m 122 #[.val (.int p0)] [])) := by
    intro T0 X0 e0 hbk
    show own_Go p e below _ (T0.setTop (mkF m 122 #[.val (.int p0)] []))
    refine own_st (fun _ k => XS.iloadN X0.here hx rfl (hb hby d1_122) rfl k) ?_
    show own_Go p e below _ (T0.setTop (mkF m 123 #[.val (.int p0)] [(.int p0)]))
    refine own_st (fun _ k => XS.sipush X0.here hx rfl (hb hby d1_123) k) ?_
    show own_Go p e below _ (T0.setTop (mkF m 126 #[.val (.int p0)] [(.int (11264 : Int32)), (.int p0)]))
    by_cases hc126 : p0 < (11264 : Int32)
    · refine own_st (fun _ k => XS.icmpYes X0.here hx rfl (pc0 := 126) (pc' := 136) rfl (hb hby d1_126) rfl ((own_i2 _ _ _).trans (own_yes hc126)) (by decide) (by decide) k) ?_
      show own_Go p e below _ (T0.setTop (mkF m 136 #[.val (.int p0)] []))
      exact B136 T0 X0 e0 ((show own_a_122 p0 = own_a_136 p0 from (if_pos hc126)).symm.trans hbk)
    · refine own_st (fun _ k => XS.icmpNo X0.here hx rfl (hb hby d1_126) rfl ((own_i2 _ _ _).trans (own_no hc126)) k) ?_
      show own_Go p e below _ (T0.setTop (mkF m 129 #[.val (.int p0)] []))
      refine own_st (fun _ k => XS.iloadN X0.here hx rfl (hb hby d1_129) rfl k) ?_
      show own_Go p e below _ (T0.setTop (mkF m 130 #[.val (.int p0)] [(.int p0)]))
      refine own_st (fun _ k => XS.sipush X0.here hx rfl (hb hby d1_130) k) ?_
      show own_Go p e below _ (T0.setTop (mkF m 133 #[.val (.int p0)] [(.int (12271 : Int32)), (.int p0)]))
      by_cases hc133 : (12271 : Int32) < p0
      · refine own_st (fun _ k => XS.icmpNo X0.here hx rfl (hb hby d1_133) rfl ((own_i2 _ _ _).trans (own_nyes hc133)) k) ?_
        show own_Go p e below _ (T0.setTop (mkF m 136 #[.val (.int p0)] []))
        exact B136 T0 X0 e0 ((show own_a_122 p0 = own_a_136 p0 from ((if_neg hc126)).trans ((if_pos hc133))).symm.trans hbk)
      · refine own_st (fun _ k => XS.icmpYes X0.here hx rfl (pc0 := 133) (pc' := 185) rfl (hb hby d1_133) rfl ((own_i2 _ _ _).trans (own_nno hc133)) (by decide) (by decide) k) ?_
        show own_Go p e below _ (T0.setTop (mkF m 185 #[.val (.int p0)] []))
        exact B185 T0 X0 e0 ((show own_a_122 p0 = own_a_185 p0 from ((if_neg hc126)).trans ((if_neg hc133))).symm.trans hbk)
  have B108 : ∀ (T0 : State), Stand p l e ({ frames := 0, cells := 0, slots := 0, locals := 0 } : Room) s m #[(.int p0)] below meth c T0 [] 0 0 → T0.heap = h0 → own_a_108 p0 = own_a_0 p0 → own_Go p e below (own_Post s (own_P (some (.int (own_a_0 p0))) h0) ({ frames := 0, cells := 0, slots := 0, locals := 0 } : Room).cells ({ frames := 0, cells := 0, slots := 0, locals := 0 } : Room).slots) (T0.setTop (mkF m 108 #[.val (.int p0)] [])) := by
    intro T0 X0 e0 hbk
    show own_Go p e below _ (T0.setTop (mkF m 108 #[.val (.int p0)] []))
    refine own_st (fun _ k => XS.iloadN X0.here hx rfl (hb hby d1_108) rfl k) ?_
    show own_Go p e below _ (T0.setTop (mkF m 109 #[.val (.int p0)] [(.int p0)]))
    refine own_st (fun _ k => XS.sipush X0.here hx rfl (hb hby d1_109) k) ?_
    show own_Go p e below _ (T0.setTop (mkF m 112 #[.val (.int p0)] [(.int (8304 : Int32)), (.int p0)]))
    by_cases hc112 : p0 < (8304 : Int32)
    · refine own_st (fun _ k => XS.icmpYes X0.here hx rfl (pc0 := 112) (pc' := 122) rfl (hb hby d1_112) rfl ((own_i2 _ _ _).trans (own_yes hc112)) (by decide) (by decide) k) ?_
      show own_Go p e below _ (T0.setTop (mkF m 122 #[.val (.int p0)] []))
      exact B122 T0 X0 e0 ((show own_a_108 p0 = own_a_122 p0 from (if_pos hc112)).symm.trans hbk)
    · refine own_st (fun _ k => XS.icmpNo X0.here hx rfl (hb hby d1_112) rfl ((own_i2 _ _ _).trans (own_no hc112)) k) ?_
      show own_Go p e below _ (T0.setTop (mkF m 115 #[.val (.int p0)] []))
      refine own_st (fun _ k => XS.iloadN X0.here hx rfl (hb hby d1_115) rfl k) ?_
      show own_Go p e below _ (T0.setTop (mkF m 116 #[.val (.int p0)] [(.int p0)]))
      refine own_st (fun _ k => XS.sipush X0.here hx rfl (hb hby d1_116) k) ?_
      show own_Go p e below _ (T0.setTop (mkF m 119 #[.val (.int p0)] [(.int (8591 : Int32)), (.int p0)]))
      by_cases hc119 : (8591 : Int32) < p0
      · refine own_st (fun _ k => XS.icmpNo X0.here hx rfl (hb hby d1_119) rfl ((own_i2 _ _ _).trans (own_nyes hc119)) k) ?_
        show own_Go p e below _ (T0.setTop (mkF m 122 #[.val (.int p0)] []))
        exact B122 T0 X0 e0 ((show own_a_108 p0 = own_a_122 p0 from ((if_neg hc112)).trans ((if_pos hc119))).symm.trans hbk)
      · refine own_st (fun _ k => XS.icmpYes X0.here hx rfl (pc0 := 119) (pc' := 185) rfl (hb hby d1_119) rfl ((own_i2 _ _ _).trans (own_nno hc119)) (by decide) (by decide) k) ?_
        show own_Go p e below _ (T0.setTop (mkF m 185 #[.val (.int p0)] []))
        exact B185 T0 X0 e0 ((show own_a_108 p0 = own_a_185 p0 from ((if_neg hc112)).trans ((if_neg hc119))).symm.trans hbk)
  have B94 : ∀ (T0 : State), Stand p l e ({ frames := 0, cells := 0, slots := 0, locals := 0 } : Room) s m #[(.int p0)] below meth c T0 [] 0 0 → T0.heap = h0 → own_a_94 p0 = own_a_0 p0 → own_Go p e below (own_Post s (own_P (some (.int (own_a_0 p0))) h0) ({ frames := 0, cells := 0, slots := 0, locals := 0 } : Room).cells ({ frames := 0, cells := 0, slots := 0, locals := 0 } : Room).slots) (T0.setTop (mkF m 94 #[.val (.int p0)] [])) := by
    intro T0 X0 e0 hbk
    show own_Go p e below _ (T0.setTop (mkF m 94 #[.val (.int p0)] []))
    refine own_st (fun _ k => XS.iloadN X0.here hx rfl (hb hby d1_94) rfl k) ?_
    show own_Go p e below _ (T0.setTop (mkF m 95 #[.val (.int p0)] [(.int p0)]))
    refine own_st (fun _ k => XS.sipush X0.here hx rfl (hb hby d1_95) k) ?_
    show own_Go p e below _ (T0.setTop (mkF m 98 #[.val (.int p0)] [(.int (8204 : Int32)), (.int p0)]))
    by_cases hc98 : p0 < (8204 : Int32)
    · refine own_st (fun _ k => XS.icmpYes X0.here hx rfl (pc0 := 98) (pc' := 108) rfl (hb hby d1_98) rfl ((own_i2 _ _ _).trans (own_yes hc98)) (by decide) (by decide) k) ?_
      show own_Go p e below _ (T0.setTop (mkF m 108 #[.val (.int p0)] []))
      exact B108 T0 X0 e0 ((show own_a_94 p0 = own_a_108 p0 from (if_pos hc98)).symm.trans hbk)
    · refine own_st (fun _ k => XS.icmpNo X0.here hx rfl (hb hby d1_98) rfl ((own_i2 _ _ _).trans (own_no hc98)) k) ?_
      show own_Go p e below _ (T0.setTop (mkF m 101 #[.val (.int p0)] []))
      refine own_st (fun _ k => XS.iloadN X0.here hx rfl (hb hby d1_101) rfl k) ?_
      show own_Go p e below _ (T0.setTop (mkF m 102 #[.val (.int p0)] [(.int p0)]))
      refine own_st (fun _ k => XS.sipush X0.here hx rfl (hb hby d1_102) k) ?_
      show own_Go p e below _ (T0.setTop (mkF m 105 #[.val (.int p0)] [(.int (8205 : Int32)), (.int p0)]))
      by_cases hc105 : (8205 : Int32) < p0
      · refine own_st (fun _ k => XS.icmpNo X0.here hx rfl (hb hby d1_105) rfl ((own_i2 _ _ _).trans (own_nyes hc105)) k) ?_
        show own_Go p e below _ (T0.setTop (mkF m 108 #[.val (.int p0)] []))
        exact B108 T0 X0 e0 ((show own_a_94 p0 = own_a_108 p0 from ((if_neg hc98)).trans ((if_pos hc105))).symm.trans hbk)
      · refine own_st (fun _ k => XS.icmpYes X0.here hx rfl (pc0 := 105) (pc' := 185) rfl (hb hby d1_105) rfl ((own_i2 _ _ _).trans (own_nno hc105)) (by decide) (by decide) k) ?_
        show own_Go p e below _ (T0.setTop (mkF m 185 #[.val (.int p0)] []))
        exact B185 T0 X0 e0 ((show own_a_94 p0 = own_a_185 p0 from ((if_neg hc98)).trans ((if_neg hc105))).symm.trans hbk)
  have B80 : ∀ (T0 : State), Stand p l e ({ frames := 0, cells := 0, slots := 0, locals := 0 } : Room) s m #[(.int p0)] below meth c T0 [] 0 0 → T0.heap = h0 → own_a_80 p0 = own_a_0 p0 → own_Go p e below (own_Post s (own_P (some (.int (own_a_0 p0))) h0) ({ frames := 0, cells := 0, slots := 0, locals := 0 } : Room).cells ({ frames := 0, cells := 0, slots := 0, locals := 0 } : Room).slots) (T0.setTop (mkF m 80 #[.val (.int p0)] [])) := by
    intro T0 X0 e0 hbk
    show own_Go p e below _ (T0.setTop (mkF m 80 #[.val (.int p0)] []))
    refine own_st (fun _ k => XS.iloadN X0.here hx rfl (hb hby d1_80) rfl k) ?_
    show own_Go p e below _ (T0.setTop (mkF m 81 #[.val (.int p0)] [(.int p0)]))
    refine own_st (fun _ k => XS.sipush X0.here hx rfl (hb hby d1_81) k) ?_
    show own_Go p e below _ (T0.setTop (mkF m 84 #[.val (.int p0)] [(.int (895 : Int32)), (.int p0)]))
    by_cases hc84 : p0 < (895 : Int32)
    · refine own_st (fun _ k => XS.icmpYes X0.here hx rfl (pc0 := 84) (pc' := 94) rfl (hb hby d1_84) rfl ((own_i2 _ _ _).trans (own_yes hc84)) (by decide) (by decide) k) ?_
      show own_Go p e below _ (T0.setTop (mkF m 94 #[.val (.int p0)] []))
      exact B94 T0 X0 e0 ((show own_a_80 p0 = own_a_94 p0 from (if_pos hc84)).symm.trans hbk)
    · refine own_st (fun _ k => XS.icmpNo X0.here hx rfl (hb hby d1_84) rfl ((own_i2 _ _ _).trans (own_no hc84)) k) ?_
      show own_Go p e below _ (T0.setTop (mkF m 87 #[.val (.int p0)] []))
      refine own_st (fun _ k => XS.iloadN X0.here hx rfl (hb hby d1_87) rfl k) ?_
      show own_Go p e below _ (T0.setTop (mkF m 88 #[.val (.int p0)] [(.int p0)]))
      refine own_st (fun _ k => XS.sipush X0.here hx rfl (hb hby d1_88) k) ?_
      show own_Go p e below _ (T0.setTop (mkF m 91 #[.val (.int p0)] [(.int (8191 : Int32)), (.int p0)]))
      by_cases hc91 : (8191 : Int32) < p0
      · refine own_st (fun _ k => XS.icmpNo X0.here hx rfl (hb hby d1_91) rfl ((own_i2 _ _ _).trans (own_nyes hc91)) k) ?_
        show own_Go p e below _ (T0.setTop (mkF m 94 #[.val (.int p0)] []))
        exact B94 T0 X0 e0 ((show own_a_80 p0 = own_a_94 p0 from ((if_neg hc84)).trans ((if_pos hc91))).symm.trans hbk)
      · refine own_st (fun _ k => XS.icmpYes X0.here hx rfl (pc0 := 91) (pc' := 185) rfl (hb hby d1_91) rfl ((own_i2 _ _ _).trans (own_nno hc91)) (by decide) (by decide) k) ?_
        show own_Go p e below _ (T0.setTop (mkF m 185 #[.val (.int p0)] []))
        exact B185 T0 X0 e0 ((show own_a_80 p0 = own_a_185 p0 from ((if_neg hc84)).trans ((if_neg hc91))).symm.trans hbk)
  have B66 : ∀ (T0 : State), Stand p l e ({ frames := 0, cells := 0, slots := 0, locals := 0 } : Room) s m #[(.int p0)] below meth c T0 [] 0 0 → T0.heap = h0 → own_a_66 p0 = own_a_0 p0 → own_Go p e below (own_Post s (own_P (some (.int (own_a_0 p0))) h0) ({ frames := 0, cells := 0, slots := 0, locals := 0 } : Room).cells ({ frames := 0, cells := 0, slots := 0, locals := 0 } : Room).slots) (T0.setTop (mkF m 66 #[.val (.int p0)] [])) := by
    intro T0 X0 e0 hbk
    show own_Go p e below _ (T0.setTop (mkF m 66 #[.val (.int p0)] []))
    refine own_st (fun _ k => XS.iloadN X0.here hx rfl (hb hby d1_66) rfl k) ?_
    show own_Go p e below _ (T0.setTop (mkF m 67 #[.val (.int p0)] [(.int p0)]))
    refine own_st (fun _ k => XS.sipush X0.here hx rfl (hb hby d1_67) k) ?_
    show own_Go p e below _ (T0.setTop (mkF m 70 #[.val (.int p0)] [(.int (880 : Int32)), (.int p0)]))
    by_cases hc70 : p0 < (880 : Int32)
    · refine own_st (fun _ k => XS.icmpYes X0.here hx rfl (pc0 := 70) (pc' := 80) rfl (hb hby d1_70) rfl ((own_i2 _ _ _).trans (own_yes hc70)) (by decide) (by decide) k) ?_
      show own_Go p e below _ (T0.setTop (mkF m 80 #[.val (.int p0)] []))
      exact B80 T0 X0 e0 ((show own_a_66 p0 = own_a_80 p0 from (if_pos hc70)).symm.trans hbk)
    · refine own_st (fun _ k => XS.icmpNo X0.here hx rfl (hb hby d1_70) rfl ((own_i2 _ _ _).trans (own_no hc70)) k) ?_
      show own_Go p e below _ (T0.setTop (mkF m 73 #[.val (.int p0)] []))
      refine own_st (fun _ k => XS.iloadN X0.here hx rfl (hb hby d1_73) rfl k) ?_
      show own_Go p e below _ (T0.setTop (mkF m 74 #[.val (.int p0)] [(.int p0)]))
      refine own_st (fun _ k => XS.sipush X0.here hx rfl (hb hby d1_74) k) ?_
      show own_Go p e below _ (T0.setTop (mkF m 77 #[.val (.int p0)] [(.int (893 : Int32)), (.int p0)]))
      by_cases hc77 : (893 : Int32) < p0
      · refine own_st (fun _ k => XS.icmpNo X0.here hx rfl (hb hby d1_77) rfl ((own_i2 _ _ _).trans (own_nyes hc77)) k) ?_
        show own_Go p e below _ (T0.setTop (mkF m 80 #[.val (.int p0)] []))
        exact B80 T0 X0 e0 ((show own_a_66 p0 = own_a_80 p0 from ((if_neg hc70)).trans ((if_pos hc77))).symm.trans hbk)
      · refine own_st (fun _ k => XS.icmpYes X0.here hx rfl (pc0 := 77) (pc' := 185) rfl (hb hby d1_77) rfl ((own_i2 _ _ _).trans (own_nno hc77)) (by decide) (by decide) k) ?_
        show own_Go p e below _ (T0.setTop (mkF m 185 #[.val (.int p0)] []))
        exact B185 T0 X0 e0 ((show own_a_66 p0 = own_a_185 p0 from ((if_neg hc70)).trans ((if_neg hc77))).symm.trans hbk)
  have B52 : ∀ (T0 : State), Stand p l e ({ frames := 0, cells := 0, slots := 0, locals := 0 } : Room) s m #[(.int p0)] below meth c T0 [] 0 0 → T0.heap = h0 → own_a_52 p0 = own_a_0 p0 → own_Go p e below (own_Post s (own_P (some (.int (own_a_0 p0))) h0) ({ frames := 0, cells := 0, slots := 0, locals := 0 } : Room).cells ({ frames := 0, cells := 0, slots := 0, locals := 0 } : Room).slots) (T0.setTop (mkF m 52 #[.val (.int p0)] [])) := by
    intro T0 X0 e0 hbk
    show own_Go p e below _ (T0.setTop (mkF m 52 #[.val (.int p0)] []))
    refine own_st (fun _ k => XS.iloadN X0.here hx rfl (hb hby d1_52) rfl k) ?_
    show own_Go p e below _ (T0.setTop (mkF m 53 #[.val (.int p0)] [(.int p0)]))
    refine own_st (fun _ k => XS.sipush X0.here hx rfl (hb hby d1_53) k) ?_
    show own_Go p e below _ (T0.setTop (mkF m 56 #[.val (.int p0)] [(.int (248 : Int32)), (.int p0)]))
    by_cases hc56 : p0 < (248 : Int32)
    · refine own_st (fun _ k => XS.icmpYes X0.here hx rfl (pc0 := 56) (pc' := 66) rfl (hb hby d1_56) rfl ((own_i2 _ _ _).trans (own_yes hc56)) (by decide) (by decide) k) ?_
      show own_Go p e below _ (T0.setTop (mkF m 66 #[.val (.int p0)] []))
      exact B66 T0 X0 e0 ((show own_a_52 p0 = own_a_66 p0 from (if_pos hc56)).symm.trans hbk)
    · refine own_st (fun _ k => XS.icmpNo X0.here hx rfl (hb hby d1_56) rfl ((own_i2 _ _ _).trans (own_no hc56)) k) ?_
      show own_Go p e below _ (T0.setTop (mkF m 59 #[.val (.int p0)] []))
      refine own_st (fun _ k => XS.iloadN X0.here hx rfl (hb hby d1_59) rfl k) ?_
      show own_Go p e below _ (T0.setTop (mkF m 60 #[.val (.int p0)] [(.int p0)]))
      refine own_st (fun _ k => XS.sipush X0.here hx rfl (hb hby d1_60) k) ?_
      show own_Go p e below _ (T0.setTop (mkF m 63 #[.val (.int p0)] [(.int (767 : Int32)), (.int p0)]))
      by_cases hc63 : (767 : Int32) < p0
      · refine own_st (fun _ k => XS.icmpNo X0.here hx rfl (hb hby d1_63) rfl ((own_i2 _ _ _).trans (own_nyes hc63)) k) ?_
        show own_Go p e below _ (T0.setTop (mkF m 66 #[.val (.int p0)] []))
        exact B66 T0 X0 e0 ((show own_a_52 p0 = own_a_66 p0 from ((if_neg hc56)).trans ((if_pos hc63))).symm.trans hbk)
      · refine own_st (fun _ k => XS.icmpYes X0.here hx rfl (pc0 := 63) (pc' := 185) rfl (hb hby d1_63) rfl ((own_i2 _ _ _).trans (own_nno hc63)) (by decide) (by decide) k) ?_
        show own_Go p e below _ (T0.setTop (mkF m 185 #[.val (.int p0)] []))
        exact B185 T0 X0 e0 ((show own_a_52 p0 = own_a_185 p0 from ((if_neg hc56)).trans ((if_neg hc63))).symm.trans hbk)
  have B38 : ∀ (T0 : State), Stand p l e ({ frames := 0, cells := 0, slots := 0, locals := 0 } : Room) s m #[(.int p0)] below meth c T0 [] 0 0 → T0.heap = h0 → own_a_38 p0 = own_a_0 p0 → own_Go p e below (own_Post s (own_P (some (.int (own_a_0 p0))) h0) ({ frames := 0, cells := 0, slots := 0, locals := 0 } : Room).cells ({ frames := 0, cells := 0, slots := 0, locals := 0 } : Room).slots) (T0.setTop (mkF m 38 #[.val (.int p0)] [])) := by
    intro T0 X0 e0 hbk
    show own_Go p e below _ (T0.setTop (mkF m 38 #[.val (.int p0)] []))
    refine own_st (fun _ k => XS.iloadN X0.here hx rfl (hb hby d1_38) rfl k) ?_
    show own_Go p e below _ (T0.setTop (mkF m 39 #[.val (.int p0)] [(.int p0)]))
    refine own_st (fun _ k => XS.sipush X0.here hx rfl (hb hby d1_39) k) ?_
    show own_Go p e below _ (T0.setTop (mkF m 42 #[.val (.int p0)] [(.int (216 : Int32)), (.int p0)]))
    by_cases hc42 : p0 < (216 : Int32)
    · refine own_st (fun _ k => XS.icmpYes X0.here hx rfl (pc0 := 42) (pc' := 52) rfl (hb hby d1_42) rfl ((own_i2 _ _ _).trans (own_yes hc42)) (by decide) (by decide) k) ?_
      show own_Go p e below _ (T0.setTop (mkF m 52 #[.val (.int p0)] []))
      exact B52 T0 X0 e0 ((show own_a_38 p0 = own_a_52 p0 from (if_pos hc42)).symm.trans hbk)
    · refine own_st (fun _ k => XS.icmpNo X0.here hx rfl (hb hby d1_42) rfl ((own_i2 _ _ _).trans (own_no hc42)) k) ?_
      show own_Go p e below _ (T0.setTop (mkF m 45 #[.val (.int p0)] []))
      refine own_st (fun _ k => XS.iloadN X0.here hx rfl (hb hby d1_45) rfl k) ?_
      show own_Go p e below _ (T0.setTop (mkF m 46 #[.val (.int p0)] [(.int p0)]))
      refine own_st (fun _ k => XS.sipush X0.here hx rfl (hb hby d1_46) k) ?_
      show own_Go p e below _ (T0.setTop (mkF m 49 #[.val (.int p0)] [(.int (246 : Int32)), (.int p0)]))
      by_cases hc49 : (246 : Int32) < p0
      · refine own_st (fun _ k => XS.icmpNo X0.here hx rfl (hb hby d1_49) rfl ((own_i2 _ _ _).trans (own_nyes hc49)) k) ?_
        show own_Go p e below _ (T0.setTop (mkF m 52 #[.val (.int p0)] []))
        exact B52 T0 X0 e0 ((show own_a_38 p0 = own_a_52 p0 from ((if_neg hc42)).trans ((if_pos hc49))).symm.trans hbk)
      · refine own_st (fun _ k => XS.icmpYes X0.here hx rfl (pc0 := 49) (pc' := 185) rfl (hb hby d1_49) rfl ((own_i2 _ _ _).trans (own_nno hc49)) (by decide) (by decide) k) ?_
        show own_Go p e below _ (T0.setTop (mkF m 185 #[.val (.int p0)] []))
        exact B185 T0 X0 e0 ((show own_a_38 p0 = own_a_185 p0 from ((if_neg hc42)).trans ((if_neg hc49))).symm.trans hbk)
  have B24 : ∀ (T0 : State), Stand p l e ({ frames := 0, cells := 0, slots := 0, locals := 0 } : Room) s m #[(.int p0)] below meth c T0 [] 0 0 → T0.heap = h0 → own_a_24 p0 = own_a_0 p0 → own_Go p e below (own_Post s (own_P (some (.int (own_a_0 p0))) h0) ({ frames := 0, cells := 0, slots := 0, locals := 0 } : Room).cells ({ frames := 0, cells := 0, slots := 0, locals := 0 } : Room).slots) (T0.setTop (mkF m 24 #[.val (.int p0)] [])) := by
    intro T0 X0 e0 hbk
    show own_Go p e below _ (T0.setTop (mkF m 24 #[.val (.int p0)] []))
    refine own_st (fun _ k => XS.iloadN X0.here hx rfl (hb hby d1_24) rfl k) ?_
    show own_Go p e below _ (T0.setTop (mkF m 25 #[.val (.int p0)] [(.int p0)]))
    refine own_st (fun _ k => XS.sipush X0.here hx rfl (hb hby d1_25) k) ?_
    show own_Go p e below _ (T0.setTop (mkF m 28 #[.val (.int p0)] [(.int (192 : Int32)), (.int p0)]))
    by_cases hc28 : p0 < (192 : Int32)
    · refine own_st (fun _ k => XS.icmpYes X0.here hx rfl (pc0 := 28) (pc' := 38) rfl (hb hby d1_28) rfl ((own_i2 _ _ _).trans (own_yes hc28)) (by decide) (by decide) k) ?_
      show own_Go p e below _ (T0.setTop (mkF m 38 #[.val (.int p0)] []))
      exact B38 T0 X0 e0 ((show own_a_24 p0 = own_a_38 p0 from (if_pos hc28)).symm.trans hbk)
    · refine own_st (fun _ k => XS.icmpNo X0.here hx rfl (hb hby d1_28) rfl ((own_i2 _ _ _).trans (own_no hc28)) k) ?_
      show own_Go p e below _ (T0.setTop (mkF m 31 #[.val (.int p0)] []))
      refine own_st (fun _ k => XS.iloadN X0.here hx rfl (hb hby d1_31) rfl k) ?_
      show own_Go p e below _ (T0.setTop (mkF m 32 #[.val (.int p0)] [(.int p0)]))
      refine own_st (fun _ k => XS.sipush X0.here hx rfl (hb hby d1_32) k) ?_
      show own_Go p e below _ (T0.setTop (mkF m 35 #[.val (.int p0)] [(.int (214 : Int32)), (.int p0)]))
      by_cases hc35 : (214 : Int32) < p0
      · refine own_st (fun _ k => XS.icmpNo X0.here hx rfl (hb hby d1_35) rfl ((own_i2 _ _ _).trans (own_nyes hc35)) k) ?_
        show own_Go p e below _ (T0.setTop (mkF m 38 #[.val (.int p0)] []))
        exact B38 T0 X0 e0 ((show own_a_24 p0 = own_a_38 p0 from ((if_neg hc28)).trans ((if_pos hc35))).symm.trans hbk)
      · refine own_st (fun _ k => XS.icmpYes X0.here hx rfl (pc0 := 35) (pc' := 185) rfl (hb hby d1_35) rfl ((own_i2 _ _ _).trans (own_nno hc35)) (by decide) (by decide) k) ?_
        show own_Go p e below _ (T0.setTop (mkF m 185 #[.val (.int p0)] []))
        exact B185 T0 X0 e0 ((show own_a_24 p0 = own_a_185 p0 from ((if_neg hc28)).trans ((if_neg hc35))).symm.trans hbk)
  have B12 : ∀ (T0 : State), Stand p l e ({ frames := 0, cells := 0, slots := 0, locals := 0 } : Room) s m #[(.int p0)] below meth c T0 [] 0 0 → T0.heap = h0 → own_a_12 p0 = own_a_0 p0 → own_Go p e below (own_Post s (own_P (some (.int (own_a_0 p0))) h0) ({ frames := 0, cells := 0, slots := 0, locals := 0 } : Room).cells ({ frames := 0, cells := 0, slots := 0, locals := 0 } : Room).slots) (T0.setTop (mkF m 12 #[.val (.int p0)] [])) := by
    intro T0 X0 e0 hbk
    show own_Go p e below _ (T0.setTop (mkF m 12 #[.val (.int p0)] []))
    refine own_st (fun _ k => XS.iloadN X0.here hx rfl (hb hby d1_12) rfl k) ?_
    show own_Go p e below _ (T0.setTop (mkF m 13 #[.val (.int p0)] [(.int p0)]))
    refine own_st (fun _ k => XS.bipush X0.here hx rfl (hb hby d1_13) k) ?_
    show own_Go p e below _ (T0.setTop (mkF m 15 #[.val (.int p0)] [(.int (65 : Int32)), (.int p0)]))
    by_cases hc15 : p0 < (65 : Int32)
    · refine own_st (fun _ k => XS.icmpYes X0.here hx rfl (pc0 := 15) (pc' := 24) rfl (hb hby d1_15) rfl ((own_i2 _ _ _).trans (own_yes hc15)) (by decide) (by decide) k) ?_
      show own_Go p e below _ (T0.setTop (mkF m 24 #[.val (.int p0)] []))
      exact B24 T0 X0 e0 ((show own_a_12 p0 = own_a_24 p0 from (if_pos hc15)).symm.trans hbk)
    · refine own_st (fun _ k => XS.icmpNo X0.here hx rfl (hb hby d1_15) rfl ((own_i2 _ _ _).trans (own_no hc15)) k) ?_
      show own_Go p e below _ (T0.setTop (mkF m 18 #[.val (.int p0)] []))
      refine own_st (fun _ k => XS.iloadN X0.here hx rfl (hb hby d1_18) rfl k) ?_
      show own_Go p e below _ (T0.setTop (mkF m 19 #[.val (.int p0)] [(.int p0)]))
      refine own_st (fun _ k => XS.bipush X0.here hx rfl (hb hby d1_19) k) ?_
      show own_Go p e below _ (T0.setTop (mkF m 21 #[.val (.int p0)] [(.int (90 : Int32)), (.int p0)]))
      by_cases hc21 : (90 : Int32) < p0
      · refine own_st (fun _ k => XS.icmpNo X0.here hx rfl (hb hby d1_21) rfl ((own_i2 _ _ _).trans (own_nyes hc21)) k) ?_
        show own_Go p e below _ (T0.setTop (mkF m 24 #[.val (.int p0)] []))
        exact B24 T0 X0 e0 ((show own_a_12 p0 = own_a_24 p0 from ((if_neg hc15)).trans ((if_pos hc21))).symm.trans hbk)
      · refine own_st (fun _ k => XS.icmpYes X0.here hx rfl (pc0 := 21) (pc' := 185) rfl (hb hby d1_21) rfl ((own_i2 _ _ _).trans (own_nno hc21)) (by decide) (by decide) k) ?_
        show own_Go p e below _ (T0.setTop (mkF m 185 #[.val (.int p0)] []))
        exact B185 T0 X0 e0 ((show own_a_12 p0 = own_a_185 p0 from ((if_neg hc15)).trans ((if_neg hc21))).symm.trans hbk)
  have B0 : ∀ (T0 : State), Stand p l e ({ frames := 0, cells := 0, slots := 0, locals := 0 } : Room) s m #[(.int p0)] below meth c T0 [] 0 0 → T0.heap = h0 → own_a_0 p0 = own_a_0 p0 → own_Go p e below (own_Post s (own_P (some (.int (own_a_0 p0))) h0) ({ frames := 0, cells := 0, slots := 0, locals := 0 } : Room).cells ({ frames := 0, cells := 0, slots := 0, locals := 0 } : Room).slots) (T0.setTop (mkF m 0 #[.val (.int p0)] [])) := by
    intro T0 X0 e0 hbk
    show own_Go p e below _ (T0.setTop (mkF m 0 #[.val (.int p0)] []))
    refine own_st (fun _ k => XS.iloadN X0.here hx rfl (hb hby d1_0) rfl k) ?_
    show own_Go p e below _ (T0.setTop (mkF m 1 #[.val (.int p0)] [(.int p0)]))
    refine own_st (fun _ k => XS.bipush X0.here hx rfl (hb hby d1_1) k) ?_
    show own_Go p e below _ (T0.setTop (mkF m 3 #[.val (.int p0)] [(.int (97 : Int32)), (.int p0)]))
    by_cases hc3 : p0 < (97 : Int32)
    · refine own_st (fun _ k => XS.icmpYes X0.here hx rfl (pc0 := 3) (pc' := 12) rfl (hb hby d1_3) rfl ((own_i2 _ _ _).trans (own_yes hc3)) (by decide) (by decide) k) ?_
      show own_Go p e below _ (T0.setTop (mkF m 12 #[.val (.int p0)] []))
      exact B12 T0 X0 e0 ((show own_a_0 p0 = own_a_12 p0 from (if_pos hc3)).symm.trans hbk)
    · refine own_st (fun _ k => XS.icmpNo X0.here hx rfl (hb hby d1_3) rfl ((own_i2 _ _ _).trans (own_no hc3)) k) ?_
      show own_Go p e below _ (T0.setTop (mkF m 6 #[.val (.int p0)] []))
      refine own_st (fun _ k => XS.iloadN X0.here hx rfl (hb hby d1_6) rfl k) ?_
      show own_Go p e below _ (T0.setTop (mkF m 7 #[.val (.int p0)] [(.int p0)]))
      refine own_st (fun _ k => XS.bipush X0.here hx rfl (hb hby d1_7) k) ?_
      show own_Go p e below _ (T0.setTop (mkF m 9 #[.val (.int p0)] [(.int (122 : Int32)), (.int p0)]))
      by_cases hc9 : (122 : Int32) < p0
      · refine own_st (fun _ k => XS.icmpNo X0.here hx rfl (hb hby d1_9) rfl ((own_i2 _ _ _).trans (own_nyes hc9)) k) ?_
        show own_Go p e below _ (T0.setTop (mkF m 12 #[.val (.int p0)] []))
        exact B12 T0 X0 e0 ((show own_a_0 p0 = own_a_12 p0 from ((if_neg hc3)).trans ((if_pos hc9))).symm.trans hbk)
      · refine own_st (fun _ k => XS.icmpYes X0.here hx rfl (pc0 := 9) (pc' := 185) rfl (hb hby d1_9) rfl ((own_i2 _ _ _).trans (own_nno hc9)) (by decide) (by decide) k) ?_
        show own_Go p e below _ (T0.setTop (mkF m 185 #[.val (.int p0)] []))
        exact B185 T0 X0 e0 ((show own_a_0 p0 = own_a_185 p0 from ((if_neg hc3)).trans ((if_neg hc9))).symm.trans hbk)
  rw [ef_1]
  exact B0 _ X0 e0 rfl
def own_r_192 (p0 : Int32) : Int32 := (1 : Int32)
def own_r_178 (p0 : Int32) : Int32 := (if p0 < (65534 : Int32) then (own_r_192 p0) else (if (65535 : Int32) < p0 then (own_r_192 p0) else (0 : Int32)))
def own_r_164 (p0 : Int32) : Int32 := (if p0 < (64976 : Int32) then (own_r_178 p0) else (if (65007 : Int32) < p0 then (own_r_178 p0) else (0 : Int32)))
def own_r_150 (p0 : Int32) : Int32 := (if p0 < (55296 : Int32) then (own_r_164 p0) else (if (63743 : Int32) < p0 then (own_r_164 p0) else (0 : Int32)))
def own_r_134 (p0 : Int32) : Int32 := (if p0 < (12272 : Int32) then (own_r_150 p0) else (if (12288 : Int32) < p0 then (own_r_150 p0) else (0 : Int32)))
def own_r_118 (p0 : Int32) : Int32 := (if p0 < (8592 : Int32) then (own_r_134 p0) else (if (11263 : Int32) < p0 then (own_r_134 p0) else (0 : Int32)))
def own_r_102 (p0 : Int32) : Int32 := (if p0 < (8206 : Int32) then (own_r_118 p0) else (if (8303 : Int32) < p0 then (own_r_118 p0) else (0 : Int32)))
def own_r_86 (p0 : Int32) : Int32 := (if p0 < (8192 : Int32) then (own_r_102 p0) else (if (8203 : Int32) < p0 then (own_r_102 p0) else (0 : Int32)))
def own_r_77 (p0 : Int32) : Int32 := (if p0 = (894 : Int32) then (0 : Int32) else (own_r_86 p0))
def own_r_61 (p0 : Int32) : Int32 := (if p0 < (768 : Int32) then (own_r_77 p0) else (if (879 : Int32) < p0 then (own_r_77 p0) else (0 : Int32)))
def own_r_59 (p0 : Int32) : Int32 := (0 : Int32)
def own_r_45 (p0 : Int32) : Int32 := (if p0 = (215 : Int32) then (own_r_59 p0) else (if p0 = (247 : Int32) then (own_r_59 p0) else (own_r_61 p0)))
def own_r_30 (p0 : Int32) : Int32 := (if p0 < (123 : Int32) then (own_r_45 p0) else (if (191 : Int32) < p0 then (own_r_45 p0) else (0 : Int32)))
def own_r_16 (p0 : Int32) : Int32 := (if p0 < (91 : Int32) then (own_r_30 p0) else (if (96 : Int32) < p0 then (own_r_30 p0) else (0 : Int32)))
def own_r_8 (p0 : Int32) : Int32 := (if (983039 : Int32) < p0 then (0 : Int32) else (own_r_16 p0))
def own_r_0 (p0 : Int32) : Int32 := (if p0 < (65 : Int32) then (0 : Int32) else (own_r_8 p0))
theorem d2_0 : decode method_3_code 0 = .ok (.iload_n 0, 1) := by decide +kernel
theorem d2_1 : decode method_3_code 1 = .ok (.bipush 65, 2) := by decide +kernel
theorem d2_3 : decode method_3_code 3 = .ok (.if_icmp .ge 5, 3) := by decide +kernel
theorem d2_6 : decode method_3_code 6 = .ok (.iconst 0, 1) := by decide +kernel
theorem d2_7 : decode method_3_code 7 = .ok (.ireturn, 1) := by decide +kernel
theorem d2_8 : decode method_3_code 8 = .ok (.iload_n 0, 1) := by decide +kernel
theorem d2_9 : decode method_3_code 9 = .ok (.ldc 20, 2) := by decide +kernel
theorem d2_11 : decode method_3_code 11 = .ok (.if_icmp .le 5, 3) := by decide +kernel
theorem d2_14 : decode method_3_code 14 = .ok (.iconst 0, 1) := by decide +kernel
theorem d2_15 : decode method_3_code 15 = .ok (.ireturn, 1) := by decide +kernel
theorem d2_16 : decode method_3_code 16 = .ok (.iload_n 0, 1) := by decide +kernel
theorem d2_17 : decode method_3_code 17 = .ok (.bipush 91, 2) := by decide +kernel
theorem d2_19 : decode method_3_code 19 = .ok (.if_icmp .lt 11, 3) := by decide +kernel
theorem d2_22 : decode method_3_code 22 = .ok (.iload_n 0, 1) := by decide +kernel
theorem d2_23 : decode method_3_code 23 = .ok (.bipush 96, 2) := by decide +kernel
theorem d2_25 : decode method_3_code 25 = .ok (.if_icmp .gt 5, 3) := by decide +kernel
theorem d2_28 : decode method_3_code 28 = .ok (.iconst 0, 1) := by decide +kernel
theorem d2_29 : decode method_3_code 29 = .ok (.ireturn, 1) := by decide +kernel
theorem d2_30 : decode method_3_code 30 = .ok (.iload_n 0, 1) := by decide +kernel
theorem d2_31 : decode method_3_code 31 = .ok (.bipush 123, 2) := by decide +kernel
theorem d2_33 : decode method_3_code 33 = .ok (.if_icmp .lt 12, 3) := by decide +kernel
theorem d2_36 : decode method_3_code 36 = .ok (.iload_n 0, 1) := by decide +kernel
theorem d2_37 : decode method_3_code 37 = .ok (.sipush 191, 3) := by decide +kernel
theorem d2_40 : decode method_3_code 40 = .ok (.if_icmp .gt 5, 3) := by decide +kernel
theorem d2_43 : decode method_3_code 43 = .ok (.iconst 0, 1) := by decide +kernel
theorem d2_44 : decode method_3_code 44 = .ok (.ireturn, 1) := by decide +kernel
theorem d2_45 : decode method_3_code 45 = .ok (.iload_n 0, 1) := by decide +kernel
theorem d2_46 : decode method_3_code 46 = .ok (.sipush 215, 3) := by decide +kernel
theorem d2_49 : decode method_3_code 49 = .ok (.if_icmp .eq 10, 3) := by decide +kernel
theorem d2_52 : decode method_3_code 52 = .ok (.iload_n 0, 1) := by decide +kernel
theorem d2_53 : decode method_3_code 53 = .ok (.sipush 247, 3) := by decide +kernel
theorem d2_56 : decode method_3_code 56 = .ok (.if_icmp .ne 5, 3) := by decide +kernel
theorem d2_59 : decode method_3_code 59 = .ok (.iconst 0, 1) := by decide +kernel
theorem d2_60 : decode method_3_code 60 = .ok (.ireturn, 1) := by decide +kernel
theorem d2_61 : decode method_3_code 61 = .ok (.iload_n 0, 1) := by decide +kernel
theorem d2_62 : decode method_3_code 62 = .ok (.sipush 768, 3) := by decide +kernel
theorem d2_65 : decode method_3_code 65 = .ok (.if_icmp .lt 12, 3) := by decide +kernel
theorem d2_68 : decode method_3_code 68 = .ok (.iload_n 0, 1) := by decide +kernel
theorem d2_69 : decode method_3_code 69 = .ok (.sipush 879, 3) := by decide +kernel
theorem d2_72 : decode method_3_code 72 = .ok (.if_icmp .gt 5, 3) := by decide +kernel
theorem d2_75 : decode method_3_code 75 = .ok (.iconst 0, 1) := by decide +kernel
theorem d2_76 : decode method_3_code 76 = .ok (.ireturn, 1) := by decide +kernel
theorem d2_77 : decode method_3_code 77 = .ok (.iload_n 0, 1) := by decide +kernel
theorem d2_78 : decode method_3_code 78 = .ok (.sipush 894, 3) := by decide +kernel
theorem d2_81 : decode method_3_code 81 = .ok (.if_icmp .ne 5, 3) := by decide +kernel
theorem d2_84 : decode method_3_code 84 = .ok (.iconst 0, 1) := by decide +kernel
theorem d2_85 : decode method_3_code 85 = .ok (.ireturn, 1) := by decide +kernel
theorem d2_86 : decode method_3_code 86 = .ok (.iload_n 0, 1) := by decide +kernel
theorem d2_87 : decode method_3_code 87 = .ok (.sipush 8192, 3) := by decide +kernel
theorem d2_90 : decode method_3_code 90 = .ok (.if_icmp .lt 12, 3) := by decide +kernel
theorem d2_93 : decode method_3_code 93 = .ok (.iload_n 0, 1) := by decide +kernel
theorem d2_94 : decode method_3_code 94 = .ok (.sipush 8203, 3) := by decide +kernel
theorem d2_97 : decode method_3_code 97 = .ok (.if_icmp .gt 5, 3) := by decide +kernel
theorem d2_100 : decode method_3_code 100 = .ok (.iconst 0, 1) := by decide +kernel
theorem d2_101 : decode method_3_code 101 = .ok (.ireturn, 1) := by decide +kernel
theorem d2_102 : decode method_3_code 102 = .ok (.iload_n 0, 1) := by decide +kernel
theorem d2_103 : decode method_3_code 103 = .ok (.sipush 8206, 3) := by decide +kernel
theorem d2_106 : decode method_3_code 106 = .ok (.if_icmp .lt 12, 3) := by decide +kernel
theorem d2_109 : decode method_3_code 109 = .ok (.iload_n 0, 1) := by decide +kernel
theorem d2_110 : decode method_3_code 110 = .ok (.sipush 8303, 3) := by decide +kernel
theorem d2_113 : decode method_3_code 113 = .ok (.if_icmp .gt 5, 3) := by decide +kernel
theorem d2_116 : decode method_3_code 116 = .ok (.iconst 0, 1) := by decide +kernel
theorem d2_117 : decode method_3_code 117 = .ok (.ireturn, 1) := by decide +kernel
theorem d2_118 : decode method_3_code 118 = .ok (.iload_n 0, 1) := by decide +kernel
theorem d2_119 : decode method_3_code 119 = .ok (.sipush 8592, 3) := by decide +kernel
theorem d2_122 : decode method_3_code 122 = .ok (.if_icmp .lt 12, 3) := by decide +kernel
theorem d2_125 : decode method_3_code 125 = .ok (.iload_n 0, 1) := by decide +kernel
theorem d2_126 : decode method_3_code 126 = .ok (.sipush 11263, 3) := by decide +kernel
theorem d2_129 : decode method_3_code 129 = .ok (.if_icmp .gt 5, 3) := by decide +kernel
theorem d2_132 : decode method_3_code 132 = .ok (.iconst 0, 1) := by decide +kernel
theorem d2_133 : decode method_3_code 133 = .ok (.ireturn, 1) := by decide +kernel
theorem d2_134 : decode method_3_code 134 = .ok (.iload_n 0, 1) := by decide +kernel
theorem d2_135 : decode method_3_code 135 = .ok (.sipush 12272, 3) := by decide +kernel
theorem d2_138 : decode method_3_code 138 = .ok (.if_icmp .lt 12, 3) := by decide +kernel
theorem d2_141 : decode method_3_code 141 = .ok (.iload_n 0, 1) := by decide +kernel
theorem d2_142 : decode method_3_code 142 = .ok (.sipush 12288, 3) := by decide +kernel
theorem d2_145 : decode method_3_code 145 = .ok (.if_icmp .gt 5, 3) := by decide +kernel
theorem d2_148 : decode method_3_code 148 = .ok (.iconst 0, 1) := by decide +kernel
theorem d2_149 : decode method_3_code 149 = .ok (.ireturn, 1) := by decide +kernel
theorem d2_150 : decode method_3_code 150 = .ok (.iload_n 0, 1) := by decide +kernel
theorem d2_151 : decode method_3_code 151 = .ok (.ldc 21, 2) := by decide +kernel
theorem d2_153 : decode method_3_code 153 = .ok (.if_icmp .lt 11, 3) := by decide +kernel
theorem d2_156 : decode method_3_code 156 = .ok (.iload_n 0, 1) := by decide +kernel
theorem d2_157 : decode method_3_code 157 = .ok (.ldc 22, 2) := by decide +kernel
theorem d2_159 : decode method_3_code 159 = .ok (.if_icmp .gt 5, 3) := by decide +kernel
theorem d2_162 : decode method_3_code 162 = .ok (.iconst 0, 1) := by decide +kernel
theorem d2_163 : decode method_3_code 163 = .ok (.ireturn, 1) := by decide +kernel
theorem d2_164 : decode method_3_code 164 = .ok (.iload_n 0, 1) := by decide +kernel
theorem d2_165 : decode method_3_code 165 = .ok (.ldc 23, 2) := by decide +kernel
theorem d2_167 : decode method_3_code 167 = .ok (.if_icmp .lt 11, 3) := by decide +kernel
theorem d2_170 : decode method_3_code 170 = .ok (.iload_n 0, 1) := by decide +kernel
theorem d2_171 : decode method_3_code 171 = .ok (.ldc 24, 2) := by decide +kernel
theorem d2_173 : decode method_3_code 173 = .ok (.if_icmp .gt 5, 3) := by decide +kernel
theorem d2_176 : decode method_3_code 176 = .ok (.iconst 0, 1) := by decide +kernel
theorem d2_177 : decode method_3_code 177 = .ok (.ireturn, 1) := by decide +kernel
theorem d2_178 : decode method_3_code 178 = .ok (.iload_n 0, 1) := by decide +kernel
theorem d2_179 : decode method_3_code 179 = .ok (.ldc 25, 2) := by decide +kernel
theorem d2_181 : decode method_3_code 181 = .ok (.if_icmp .lt 11, 3) := by decide +kernel
theorem d2_184 : decode method_3_code 184 = .ok (.iload_n 0, 1) := by decide +kernel
theorem d2_185 : decode method_3_code 185 = .ok (.ldc 7, 2) := by decide +kernel
theorem d2_187 : decode method_3_code 187 = .ok (.if_icmp .gt 5, 3) := by decide +kernel
theorem d2_190 : decode method_3_code 190 = .ok (.iconst 0, 1) := by decide +kernel
theorem d2_191 : decode method_3_code 191 = .ok (.ireturn, 1) := by decide +kernel
theorem d2_192 : decode method_3_code 192 = .ok (.iconst 1, 1) := by decide +kernel
theorem d2_193 : decode method_3_code 193 = .ok (.ireturn, 1) := by decide +kernel
theorem pn_2 : plainFor (⟨"com/example/hornbeam/hornbeam/rdf/NameCharactersIsPnCharsBasePinLaw", "ref", "(I)Z"⟩ : MethodName) = true := plainFor_of_name (by first | (simp [plainName, overriddenIn]; done) | decide +kernel)
theorem ef_2 (m : MethodId) (x0 : Int32) : entryFrame m #[(.int x0)] 1 = mkF m 0 #[.val (.int x0)] [] := by first | (simp [entryFrame, mkF, argsToLocals, Value.category]; done) | rfl
set_option maxRecDepth 65536 in
set_option maxHeartbeats 40000000 in
theorem rm2 (l : Launch) (Z : State) (tA : Array Value) (hw : ∀ d ∈ tables_1, d.before tA Z = true) (p0 : Int32) (h0 : Heap) :
    own_Met l Z (⟨"com/example/hornbeam/hornbeam/rdf/NameCharactersIsPnCharsBasePinLaw", "ref", "(I)Z"⟩ : MethodName) method_3_code 1 (some .boolean) ({ frames := 0, cells := 0, slots := 0, locals := 0 } : Room) #[(.int p0)] h0 (own_P (some (.int (own_r_0 p0))) h0) := by
  refine own_body pn_2 ?_
  intro p e s m below meth c s₁ X0 hx hZ hby hml hown hret hlk hnm e0
  have B192 : ∀ (T0 : State), Stand p l e ({ frames := 0, cells := 0, slots := 0, locals := 0 } : Room) s m #[(.int p0)] below meth c T0 [] 0 0 → T0.heap = h0 → own_r_192 p0 = own_r_0 p0 → own_Go p e below (own_Post s (own_P (some (.int (own_r_0 p0))) h0) ({ frames := 0, cells := 0, slots := 0, locals := 0 } : Room).cells ({ frames := 0, cells := 0, slots := 0, locals := 0 } : Room).slots) (T0.setTop (mkF m 192 #[.val (.int p0)] [])) := by
    intro T0 X0 e0 hbk
    show own_Go p e below _ (T0.setTop (mkF m 192 #[.val (.int p0)] []))
    refine own_st (fun _ k => XS.iconst X0.here hx rfl (hb hby d2_192) k) ?_
    show own_Go p e below _ (T0.setTop (mkF m 193 #[.val (.int p0)] [(.int (1 : Int32))]))
    exact own_retZ X0 hx hlk hret rfl (hb hby d2_193) ⟨congrArg (fun z => some (Value.int z)) ((show own_r_192 p0 = (1 : Int32) from rfl).symm.trans hbk), rfl, e0⟩ (by decide) (by decide)
  have B178 : ∀ (T0 : State), Stand p l e ({ frames := 0, cells := 0, slots := 0, locals := 0 } : Room) s m #[(.int p0)] below meth c T0 [] 0 0 → T0.heap = h0 → own_r_178 p0 = own_r_0 p0 → own_Go p e below (own_Post s (own_P (some (.int (own_r_0 p0))) h0) ({ frames := 0, cells := 0, slots := 0, locals := 0 } : Room).cells ({ frames := 0, cells := 0, slots := 0, locals := 0 } : Room).slots) (T0.setTop (mkF m 178 #[.val (.int p0)] [])) := by
    intro T0 X0 e0 hbk
    show own_Go p e below _ (T0.setTop (mkF m 178 #[.val (.int p0)] []))
    refine own_st (fun _ k => XS.iloadN X0.here hx rfl (hb hby d2_178) rfl k) ?_
    show own_Go p e below _ (T0.setTop (mkF m 179 #[.val (.int p0)] [(.int p0)]))
    refine own_st (fun _ k => X0.ldcInt hx hown (mvT hZ (hw _ (List.mem_of_getElem? (i := 16) rfl))) (g := (mkF m 179 #[.val (.int p0)] [(.int p0)])) rfl (hb hby d2_179) _ k) ?_
    show own_Go p e below _ (T0.setTop (mkF m 181 #[.val (.int p0)] [(.int (65534 : Int32)), (.int p0)]))
    by_cases hc181 : p0 < (65534 : Int32)
    · refine own_st (fun _ k => XS.icmpYes X0.here hx rfl (pc0 := 181) (pc' := 192) rfl (hb hby d2_181) rfl ((own_i2 _ _ _).trans (own_yes hc181)) (by decide) (by decide) k) ?_
      show own_Go p e below _ (T0.setTop (mkF m 192 #[.val (.int p0)] []))
      exact B192 T0 X0 e0 ((show own_r_178 p0 = own_r_192 p0 from (if_pos hc181)).symm.trans hbk)
    · refine own_st (fun _ k => XS.icmpNo X0.here hx rfl (hb hby d2_181) rfl ((own_i2 _ _ _).trans (own_no hc181)) k) ?_
      show own_Go p e below _ (T0.setTop (mkF m 184 #[.val (.int p0)] []))
      refine own_st (fun _ k => XS.iloadN X0.here hx rfl (hb hby d2_184) rfl k) ?_
      show own_Go p e below _ (T0.setTop (mkF m 185 #[.val (.int p0)] [(.int p0)]))
      refine own_st (fun _ k => X0.ldcInt hx hown (mvT hZ (hw _ (List.mem_of_getElem? (i := 0) rfl))) (g := (mkF m 185 #[.val (.int p0)] [(.int p0)])) rfl (hb hby d2_185) _ k) ?_
      show own_Go p e below _ (T0.setTop (mkF m 187 #[.val (.int p0)] [(.int (65535 : Int32)), (.int p0)]))
      by_cases hc187 : (65535 : Int32) < p0
      · refine own_st (fun _ k => XS.icmpYes X0.here hx rfl (pc0 := 187) (pc' := 192) rfl (hb hby d2_187) rfl ((own_i2 _ _ _).trans (own_yes hc187)) (by decide) (by decide) k) ?_
        show own_Go p e below _ (T0.setTop (mkF m 192 #[.val (.int p0)] []))
        exact B192 T0 X0 e0 ((show own_r_178 p0 = own_r_192 p0 from ((if_neg hc181)).trans ((if_pos hc187))).symm.trans hbk)
      · refine own_st (fun _ k => XS.icmpNo X0.here hx rfl (hb hby d2_187) rfl ((own_i2 _ _ _).trans (own_no hc187)) k) ?_
        show own_Go p e below _ (T0.setTop (mkF m 190 #[.val (.int p0)] []))
        refine own_st (fun _ k => XS.iconst X0.here hx rfl (hb hby d2_190) k) ?_
        show own_Go p e below _ (T0.setTop (mkF m 191 #[.val (.int p0)] [(.int (0 : Int32))]))
        exact own_retZ X0 hx hlk hret rfl (hb hby d2_191) ⟨congrArg (fun z => some (Value.int z)) ((show own_r_178 p0 = (0 : Int32) from ((if_neg hc181)).trans ((if_neg hc187))).symm.trans hbk), rfl, e0⟩ (by decide) (by decide)
  have B164 : ∀ (T0 : State), Stand p l e ({ frames := 0, cells := 0, slots := 0, locals := 0 } : Room) s m #[(.int p0)] below meth c T0 [] 0 0 → T0.heap = h0 → own_r_164 p0 = own_r_0 p0 → own_Go p e below (own_Post s (own_P (some (.int (own_r_0 p0))) h0) ({ frames := 0, cells := 0, slots := 0, locals := 0 } : Room).cells ({ frames := 0, cells := 0, slots := 0, locals := 0 } : Room).slots) (T0.setTop (mkF m 164 #[.val (.int p0)] [])) := by
    intro T0 X0 e0 hbk
    show own_Go p e below _ (T0.setTop (mkF m 164 #[.val (.int p0)] []))
    refine own_st (fun _ k => XS.iloadN X0.here hx rfl (hb hby d2_164) rfl k) ?_
    show own_Go p e below _ (T0.setTop (mkF m 165 #[.val (.int p0)] [(.int p0)]))
    refine own_st (fun _ k => X0.ldcInt hx hown (mvT hZ (hw _ (List.mem_of_getElem? (i := 15) rfl))) (g := (mkF m 165 #[.val (.int p0)] [(.int p0)])) rfl (hb hby d2_165) _ k) ?_
    show own_Go p e below _ (T0.setTop (mkF m 167 #[.val (.int p0)] [(.int (64976 : Int32)), (.int p0)]))
    by_cases hc167 : p0 < (64976 : Int32)
    · refine own_st (fun _ k => XS.icmpYes X0.here hx rfl (pc0 := 167) (pc' := 178) rfl (hb hby d2_167) rfl ((own_i2 _ _ _).trans (own_yes hc167)) (by decide) (by decide) k) ?_
      show own_Go p e below _ (T0.setTop (mkF m 178 #[.val (.int p0)] []))
      exact B178 T0 X0 e0 ((show own_r_164 p0 = own_r_178 p0 from (if_pos hc167)).symm.trans hbk)
    · refine own_st (fun _ k => XS.icmpNo X0.here hx rfl (hb hby d2_167) rfl ((own_i2 _ _ _).trans (own_no hc167)) k) ?_
      show own_Go p e below _ (T0.setTop (mkF m 170 #[.val (.int p0)] []))
      refine own_st (fun _ k => XS.iloadN X0.here hx rfl (hb hby d2_170) rfl k) ?_
      show own_Go p e below _ (T0.setTop (mkF m 171 #[.val (.int p0)] [(.int p0)]))
      refine own_st (fun _ k => X0.ldcInt hx hown (mvT hZ (hw _ (List.mem_of_getElem? (i := 22) rfl))) (g := (mkF m 171 #[.val (.int p0)] [(.int p0)])) rfl (hb hby d2_171) _ k) ?_
      show own_Go p e below _ (T0.setTop (mkF m 173 #[.val (.int p0)] [(.int (65007 : Int32)), (.int p0)]))
      by_cases hc173 : (65007 : Int32) < p0
      · refine own_st (fun _ k => XS.icmpYes X0.here hx rfl (pc0 := 173) (pc' := 178) rfl (hb hby d2_173) rfl ((own_i2 _ _ _).trans (own_yes hc173)) (by decide) (by decide) k) ?_
        show own_Go p e below _ (T0.setTop (mkF m 178 #[.val (.int p0)] []))
        exact B178 T0 X0 e0 ((show own_r_164 p0 = own_r_178 p0 from ((if_neg hc167)).trans ((if_pos hc173))).symm.trans hbk)
      · refine own_st (fun _ k => XS.icmpNo X0.here hx rfl (hb hby d2_173) rfl ((own_i2 _ _ _).trans (own_no hc173)) k) ?_
        show own_Go p e below _ (T0.setTop (mkF m 176 #[.val (.int p0)] []))
        refine own_st (fun _ k => XS.iconst X0.here hx rfl (hb hby d2_176) k) ?_
        show own_Go p e below _ (T0.setTop (mkF m 177 #[.val (.int p0)] [(.int (0 : Int32))]))
        exact own_retZ X0 hx hlk hret rfl (hb hby d2_177) ⟨congrArg (fun z => some (Value.int z)) ((show own_r_164 p0 = (0 : Int32) from ((if_neg hc167)).trans ((if_neg hc173))).symm.trans hbk), rfl, e0⟩ (by decide) (by decide)
  have B150 : ∀ (T0 : State), Stand p l e ({ frames := 0, cells := 0, slots := 0, locals := 0 } : Room) s m #[(.int p0)] below meth c T0 [] 0 0 → T0.heap = h0 → own_r_150 p0 = own_r_0 p0 → own_Go p e below (own_Post s (own_P (some (.int (own_r_0 p0))) h0) ({ frames := 0, cells := 0, slots := 0, locals := 0 } : Room).cells ({ frames := 0, cells := 0, slots := 0, locals := 0 } : Room).slots) (T0.setTop (mkF m 150 #[.val (.int p0)] [])) := by
    intro T0 X0 e0 hbk
    show own_Go p e below _ (T0.setTop (mkF m 150 #[.val (.int p0)] []))
    refine own_st (fun _ k => XS.iloadN X0.here hx rfl (hb hby d2_150) rfl k) ?_
    show own_Go p e below _ (T0.setTop (mkF m 151 #[.val (.int p0)] [(.int p0)]))
    refine own_st (fun _ k => X0.ldcInt hx hown (mvT hZ (hw _ (List.mem_of_getElem? (i := 14) rfl))) (g := (mkF m 151 #[.val (.int p0)] [(.int p0)])) rfl (hb hby d2_151) _ k) ?_
    show own_Go p e below _ (T0.setTop (mkF m 153 #[.val (.int p0)] [(.int (55296 : Int32)), (.int p0)]))
    by_cases hc153 : p0 < (55296 : Int32)
    · refine own_st (fun _ k => XS.icmpYes X0.here hx rfl (pc0 := 153) (pc' := 164) rfl (hb hby d2_153) rfl ((own_i2 _ _ _).trans (own_yes hc153)) (by decide) (by decide) k) ?_
      show own_Go p e below _ (T0.setTop (mkF m 164 #[.val (.int p0)] []))
      exact B164 T0 X0 e0 ((show own_r_150 p0 = own_r_164 p0 from (if_pos hc153)).symm.trans hbk)
    · refine own_st (fun _ k => XS.icmpNo X0.here hx rfl (hb hby d2_153) rfl ((own_i2 _ _ _).trans (own_no hc153)) k) ?_
      show own_Go p e below _ (T0.setTop (mkF m 156 #[.val (.int p0)] []))
      refine own_st (fun _ k => XS.iloadN X0.here hx rfl (hb hby d2_156) rfl k) ?_
      show own_Go p e below _ (T0.setTop (mkF m 157 #[.val (.int p0)] [(.int p0)]))
      refine own_st (fun _ k => X0.ldcInt hx hown (mvT hZ (hw _ (List.mem_of_getElem? (i := 21) rfl))) (g := (mkF m 157 #[.val (.int p0)] [(.int p0)])) rfl (hb hby d2_157) _ k) ?_
      show own_Go p e below _ (T0.setTop (mkF m 159 #[.val (.int p0)] [(.int (63743 : Int32)), (.int p0)]))
      by_cases hc159 : (63743 : Int32) < p0
      · refine own_st (fun _ k => XS.icmpYes X0.here hx rfl (pc0 := 159) (pc' := 164) rfl (hb hby d2_159) rfl ((own_i2 _ _ _).trans (own_yes hc159)) (by decide) (by decide) k) ?_
        show own_Go p e below _ (T0.setTop (mkF m 164 #[.val (.int p0)] []))
        exact B164 T0 X0 e0 ((show own_r_150 p0 = own_r_164 p0 from ((if_neg hc153)).trans ((if_pos hc159))).symm.trans hbk)
      · refine own_st (fun _ k => XS.icmpNo X0.here hx rfl (hb hby d2_159) rfl ((own_i2 _ _ _).trans (own_no hc159)) k) ?_
        show own_Go p e below _ (T0.setTop (mkF m 162 #[.val (.int p0)] []))
        refine own_st (fun _ k => XS.iconst X0.here hx rfl (hb hby d2_162) k) ?_
        show own_Go p e below _ (T0.setTop (mkF m 163 #[.val (.int p0)] [(.int (0 : Int32))]))
        exact own_retZ X0 hx hlk hret rfl (hb hby d2_163) ⟨congrArg (fun z => some (Value.int z)) ((show own_r_150 p0 = (0 : Int32) from ((if_neg hc153)).trans ((if_neg hc159))).symm.trans hbk), rfl, e0⟩ (by decide) (by decide)
  have B134 : ∀ (T0 : State), Stand p l e ({ frames := 0, cells := 0, slots := 0, locals := 0 } : Room) s m #[(.int p0)] below meth c T0 [] 0 0 → T0.heap = h0 → own_r_134 p0 = own_r_0 p0 → own_Go p e below (own_Post s (own_P (some (.int (own_r_0 p0))) h0) ({ frames := 0, cells := 0, slots := 0, locals := 0 } : Room).cells ({ frames := 0, cells := 0, slots := 0, locals := 0 } : Room).slots) (T0.setTop (mkF m 134 #[.val (.int p0)] [])) := by
    intro T0 X0 e0 hbk
    show own_Go p e below _ (T0.setTop (mkF m 134 #[.val (.int p0)] []))
    refine own_st (fun _ k => XS.iloadN X0.here hx rfl (hb hby d2_134) rfl k) ?_
    show own_Go p e below _ (T0.setTop (mkF m 135 #[.val (.int p0)] [(.int p0)]))
    refine own_st (fun _ k => XS.sipush X0.here hx rfl (hb hby d2_135) k) ?_
    show own_Go p e below _ (T0.setTop (mkF m 138 #[.val (.int p0)] [(.int (12272 : Int32)), (.int p0)]))
    by_cases hc138 : p0 < (12272 : Int32)
    · refine own_st (fun _ k => XS.icmpYes X0.here hx rfl (pc0 := 138) (pc' := 150) rfl (hb hby d2_138) rfl ((own_i2 _ _ _).trans (own_yes hc138)) (by decide) (by decide) k) ?_
      show own_Go p e below _ (T0.setTop (mkF m 150 #[.val (.int p0)] []))
      exact B150 T0 X0 e0 ((show own_r_134 p0 = own_r_150 p0 from (if_pos hc138)).symm.trans hbk)
    · refine own_st (fun _ k => XS.icmpNo X0.here hx rfl (hb hby d2_138) rfl ((own_i2 _ _ _).trans (own_no hc138)) k) ?_
      show own_Go p e below _ (T0.setTop (mkF m 141 #[.val (.int p0)] []))
      refine own_st (fun _ k => XS.iloadN X0.here hx rfl (hb hby d2_141) rfl k) ?_
      show own_Go p e below _ (T0.setTop (mkF m 142 #[.val (.int p0)] [(.int p0)]))
      refine own_st (fun _ k => XS.sipush X0.here hx rfl (hb hby d2_142) k) ?_
      show own_Go p e below _ (T0.setTop (mkF m 145 #[.val (.int p0)] [(.int (12288 : Int32)), (.int p0)]))
      by_cases hc145 : (12288 : Int32) < p0
      · refine own_st (fun _ k => XS.icmpYes X0.here hx rfl (pc0 := 145) (pc' := 150) rfl (hb hby d2_145) rfl ((own_i2 _ _ _).trans (own_yes hc145)) (by decide) (by decide) k) ?_
        show own_Go p e below _ (T0.setTop (mkF m 150 #[.val (.int p0)] []))
        exact B150 T0 X0 e0 ((show own_r_134 p0 = own_r_150 p0 from ((if_neg hc138)).trans ((if_pos hc145))).symm.trans hbk)
      · refine own_st (fun _ k => XS.icmpNo X0.here hx rfl (hb hby d2_145) rfl ((own_i2 _ _ _).trans (own_no hc145)) k) ?_
        show own_Go p e below _ (T0.setTop (mkF m 148 #[.val (.int p0)] []))
        refine own_st (fun _ k => XS.iconst X0.here hx rfl (hb hby d2_148) k) ?_
        show own_Go p e below _ (T0.setTop (mkF m 149 #[.val (.int p0)] [(.int (0 : Int32))]))
        exact own_retZ X0 hx hlk hret rfl (hb hby d2_149) ⟨congrArg (fun z => some (Value.int z)) ((show own_r_134 p0 = (0 : Int32) from ((if_neg hc138)).trans ((if_neg hc145))).symm.trans hbk), rfl, e0⟩ (by decide) (by decide)
  have B118 : ∀ (T0 : State), Stand p l e ({ frames := 0, cells := 0, slots := 0, locals := 0 } : Room) s m #[(.int p0)] below meth c T0 [] 0 0 → T0.heap = h0 → own_r_118 p0 = own_r_0 p0 → own_Go p e below (own_Post s (own_P (some (.int (own_r_0 p0))) h0) ({ frames := 0, cells := 0, slots := 0, locals := 0 } : Room).cells ({ frames := 0, cells := 0, slots := 0, locals := 0 } : Room).slots) (T0.setTop (mkF m 118 #[.val (.int p0)] [])) := by
    intro T0 X0 e0 hbk
    show own_Go p e below _ (T0.setTop (mkF m 118 #[.val (.int p0)] []))
    refine own_st (fun _ k => XS.iloadN X0.here hx rfl (hb hby d2_118) rfl k) ?_
    show own_Go p e below _ (T0.setTop (mkF m 119 #[.val (.int p0)] [(.int p0)]))
    refine own_st (fun _ k => XS.sipush X0.here hx rfl (hb hby d2_119) k) ?_
    show own_Go p e below _ (T0.setTop (mkF m 122 #[.val (.int p0)] [(.int (8592 : Int32)), (.int p0)]))
    by_cases hc122 : p0 < (8592 : Int32)
    · refine own_st (fun _ k => XS.icmpYes X0.here hx rfl (pc0 := 122) (pc' := 134) rfl (hb hby d2_122) rfl ((own_i2 _ _ _).trans (own_yes hc122)) (by decide) (by decide) k) ?_
      show own_Go p e below _ (T0.setTop (mkF m 134 #[.val (.int p0)] []))
      exact B134 T0 X0 e0 ((show own_r_118 p0 = own_r_134 p0 from (if_pos hc122)).symm.trans hbk)
    · refine own_st (fun _ k => XS.icmpNo X0.here hx rfl (hb hby d2_122) rfl ((own_i2 _ _ _).trans (own_no hc122)) k) ?_
      show own_Go p e below _ (T0.setTop (mkF m 125 #[.val (.int p0)] []))
      refine own_st (fun _ k => XS.iloadN X0.here hx rfl (hb hby d2_125) rfl k) ?_
      show own_Go p e below _ (T0.setTop (mkF m 126 #[.val (.int p0)] [(.int p0)]))
      refine own_st (fun _ k => XS.sipush X0.here hx rfl (hb hby d2_126) k) ?_
      show own_Go p e below _ (T0.setTop (mkF m 129 #[.val (.int p0)] [(.int (11263 : Int32)), (.int p0)]))
      by_cases hc129 : (11263 : Int32) < p0
      · refine own_st (fun _ k => XS.icmpYes X0.here hx rfl (pc0 := 129) (pc' := 134) rfl (hb hby d2_129) rfl ((own_i2 _ _ _).trans (own_yes hc129)) (by decide) (by decide) k) ?_
        show own_Go p e below _ (T0.setTop (mkF m 134 #[.val (.int p0)] []))
        exact B134 T0 X0 e0 ((show own_r_118 p0 = own_r_134 p0 from ((if_neg hc122)).trans ((if_pos hc129))).symm.trans hbk)
      · refine own_st (fun _ k => XS.icmpNo X0.here hx rfl (hb hby d2_129) rfl ((own_i2 _ _ _).trans (own_no hc129)) k) ?_
        show own_Go p e below _ (T0.setTop (mkF m 132 #[.val (.int p0)] []))
        refine own_st (fun _ k => XS.iconst X0.here hx rfl (hb hby d2_132) k) ?_
        show own_Go p e below _ (T0.setTop (mkF m 133 #[.val (.int p0)] [(.int (0 : Int32))]))
        exact own_retZ X0 hx hlk hret rfl (hb hby d2_133) ⟨congrArg (fun z => some (Value.int z)) ((show own_r_118 p0 = (0 : Int32) from ((if_neg hc122)).trans ((if_neg hc129))).symm.trans hbk), rfl, e0⟩ (by decide) (by decide)
  have B102 : ∀ (T0 : State), Stand p l e ({ frames := 0, cells := 0, slots := 0, locals := 0 } : Room) s m #[(.int p0)] below meth c T0 [] 0 0 → T0.heap = h0 → own_r_102 p0 = own_r_0 p0 → own_Go p e below (own_Post s (own_P (some (.int (own_r_0 p0))) h0) ({ frames := 0, cells := 0, slots := 0, locals := 0 } : Room).cells ({ frames := 0, cells := 0, slots := 0, locals := 0 } : Room).slots) (T0.setTop (mkF m 102 #[.val (.int p0)] [])) := by
    intro T0 X0 e0 hbk
    show own_Go p e below _ (T0.setTop (mkF m 102 #[.val (.int p0)] []))
    refine own_st (fun _ k => XS.iloadN X0.here hx rfl (hb hby d2_102) rfl k) ?_
    show own_Go p e below _ (T0.setTop (mkF m 103 #[.val (.int p0)] [(.int p0)]))
    refine own_st (fun _ k => XS.sipush X0.here hx rfl (hb hby d2_103) k) ?_
    show own_Go p e below _ (T0.setTop (mkF m 106 #[.val (.int p0)] [(.int (8206 : Int32)), (.int p0)]))
    by_cases hc106 : p0 < (8206 : Int32)
    · refine own_st (fun _ k => XS.icmpYes X0.here hx rfl (pc0 := 106) (pc' := 118) rfl (hb hby d2_106) rfl ((own_i2 _ _ _).trans (own_yes hc106)) (by decide) (by decide) k) ?_
      show own_Go p e below _ (T0.setTop (mkF m 118 #[.val (.int p0)] []))
      exact B118 T0 X0 e0 ((show own_r_102 p0 = own_r_118 p0 from (if_pos hc106)).symm.trans hbk)
    · refine own_st (fun _ k => XS.icmpNo X0.here hx rfl (hb hby d2_106) rfl ((own_i2 _ _ _).trans (own_no hc106)) k) ?_
      show own_Go p e below _ (T0.setTop (mkF m 109 #[.val (.int p0)] []))
      refine own_st (fun _ k => XS.iloadN X0.here hx rfl (hb hby d2_109) rfl k) ?_
      show own_Go p e below _ (T0.setTop (mkF m 110 #[.val (.int p0)] [(.int p0)]))
      refine own_st (fun _ k => XS.sipush X0.here hx rfl (hb hby d2_110) k) ?_
      show own_Go p e below _ (T0.setTop (mkF m 113 #[.val (.int p0)] [(.int (8303 : Int32)), (.int p0)]))
      by_cases hc113 : (8303 : Int32) < p0
      · refine own_st (fun _ k => XS.icmpYes X0.here hx rfl (pc0 := 113) (pc' := 118) rfl (hb hby d2_113) rfl ((own_i2 _ _ _).trans (own_yes hc113)) (by decide) (by decide) k) ?_
        show own_Go p e below _ (T0.setTop (mkF m 118 #[.val (.int p0)] []))
        exact B118 T0 X0 e0 ((show own_r_102 p0 = own_r_118 p0 from ((if_neg hc106)).trans ((if_pos hc113))).symm.trans hbk)
      · refine own_st (fun _ k => XS.icmpNo X0.here hx rfl (hb hby d2_113) rfl ((own_i2 _ _ _).trans (own_no hc113)) k) ?_
        show own_Go p e below _ (T0.setTop (mkF m 116 #[.val (.int p0)] []))
        refine own_st (fun _ k => XS.iconst X0.here hx rfl (hb hby d2_116) k) ?_
        show own_Go p e below _ (T0.setTop (mkF m 117 #[.val (.int p0)] [(.int (0 : Int32))]))
        exact own_retZ X0 hx hlk hret rfl (hb hby d2_117) ⟨congrArg (fun z => some (Value.int z)) ((show own_r_102 p0 = (0 : Int32) from ((if_neg hc106)).trans ((if_neg hc113))).symm.trans hbk), rfl, e0⟩ (by decide) (by decide)
  have B86 : ∀ (T0 : State), Stand p l e ({ frames := 0, cells := 0, slots := 0, locals := 0 } : Room) s m #[(.int p0)] below meth c T0 [] 0 0 → T0.heap = h0 → own_r_86 p0 = own_r_0 p0 → own_Go p e below (own_Post s (own_P (some (.int (own_r_0 p0))) h0) ({ frames := 0, cells := 0, slots := 0, locals := 0 } : Room).cells ({ frames := 0, cells := 0, slots := 0, locals := 0 } : Room).slots) (T0.setTop (mkF m 86 #[.val (.int p0)] [])) := by
    intro T0 X0 e0 hbk
    show own_Go p e below _ (T0.setTop (mkF m 86 #[.val (.int p0)] []))
    refine own_st (fun _ k => XS.iloadN X0.here hx rfl (hb hby d2_86) rfl k) ?_
    show own_Go p e below _ (T0.setTop (mkF m 87 #[.val (.int p0)] [(.int p0)]))
    refine own_st (fun _ k => XS.sipush X0.here hx rfl (hb hby d2_87) k) ?_
    show own_Go p e below _ (T0.setTop (mkF m 90 #[.val (.int p0)] [(.int (8192 : Int32)), (.int p0)]))
    by_cases hc90 : p0 < (8192 : Int32)
    · refine own_st (fun _ k => XS.icmpYes X0.here hx rfl (pc0 := 90) (pc' := 102) rfl (hb hby d2_90) rfl ((own_i2 _ _ _).trans (own_yes hc90)) (by decide) (by decide) k) ?_
      show own_Go p e below _ (T0.setTop (mkF m 102 #[.val (.int p0)] []))
      exact B102 T0 X0 e0 ((show own_r_86 p0 = own_r_102 p0 from (if_pos hc90)).symm.trans hbk)
    · refine own_st (fun _ k => XS.icmpNo X0.here hx rfl (hb hby d2_90) rfl ((own_i2 _ _ _).trans (own_no hc90)) k) ?_
      show own_Go p e below _ (T0.setTop (mkF m 93 #[.val (.int p0)] []))
      refine own_st (fun _ k => XS.iloadN X0.here hx rfl (hb hby d2_93) rfl k) ?_
      show own_Go p e below _ (T0.setTop (mkF m 94 #[.val (.int p0)] [(.int p0)]))
      refine own_st (fun _ k => XS.sipush X0.here hx rfl (hb hby d2_94) k) ?_
      show own_Go p e below _ (T0.setTop (mkF m 97 #[.val (.int p0)] [(.int (8203 : Int32)), (.int p0)]))
      by_cases hc97 : (8203 : Int32) < p0
      · refine own_st (fun _ k => XS.icmpYes X0.here hx rfl (pc0 := 97) (pc' := 102) rfl (hb hby d2_97) rfl ((own_i2 _ _ _).trans (own_yes hc97)) (by decide) (by decide) k) ?_
        show own_Go p e below _ (T0.setTop (mkF m 102 #[.val (.int p0)] []))
        exact B102 T0 X0 e0 ((show own_r_86 p0 = own_r_102 p0 from ((if_neg hc90)).trans ((if_pos hc97))).symm.trans hbk)
      · refine own_st (fun _ k => XS.icmpNo X0.here hx rfl (hb hby d2_97) rfl ((own_i2 _ _ _).trans (own_no hc97)) k) ?_
        show own_Go p e below _ (T0.setTop (mkF m 100 #[.val (.int p0)] []))
        refine own_st (fun _ k => XS.iconst X0.here hx rfl (hb hby d2_100) k) ?_
        show own_Go p e below _ (T0.setTop (mkF m 101 #[.val (.int p0)] [(.int (0 : Int32))]))
        exact own_retZ X0 hx hlk hret rfl (hb hby d2_101) ⟨congrArg (fun z => some (Value.int z)) ((show own_r_86 p0 = (0 : Int32) from ((if_neg hc90)).trans ((if_neg hc97))).symm.trans hbk), rfl, e0⟩ (by decide) (by decide)
  have B77 : ∀ (T0 : State), Stand p l e ({ frames := 0, cells := 0, slots := 0, locals := 0 } : Room) s m #[(.int p0)] below meth c T0 [] 0 0 → T0.heap = h0 → own_r_77 p0 = own_r_0 p0 → own_Go p e below (own_Post s (own_P (some (.int (own_r_0 p0))) h0) ({ frames := 0, cells := 0, slots := 0, locals := 0 } : Room).cells ({ frames := 0, cells := 0, slots := 0, locals := 0 } : Room).slots) (T0.setTop (mkF m 77 #[.val (.int p0)] [])) := by
    intro T0 X0 e0 hbk
    show own_Go p e below _ (T0.setTop (mkF m 77 #[.val (.int p0)] []))
    refine own_st (fun _ k => XS.iloadN X0.here hx rfl (hb hby d2_77) rfl k) ?_
    show own_Go p e below _ (T0.setTop (mkF m 78 #[.val (.int p0)] [(.int p0)]))
    refine own_st (fun _ k => XS.sipush X0.here hx rfl (hb hby d2_78) k) ?_
    show own_Go p e below _ (T0.setTop (mkF m 81 #[.val (.int p0)] [(.int (894 : Int32)), (.int p0)]))
    by_cases hc81 : p0 = (894 : Int32)
    · refine own_st (fun _ k => XS.icmpNo X0.here hx rfl (hb hby d2_81) rfl ((own_i2 _ _ _).trans (own_nyes hc81)) k) ?_
      show own_Go p e below _ (T0.setTop (mkF m 84 #[.val (.int p0)] []))
      refine own_st (fun _ k => XS.iconst X0.here hx rfl (hb hby d2_84) k) ?_
      show own_Go p e below _ (T0.setTop (mkF m 85 #[.val (.int p0)] [(.int (0 : Int32))]))
      exact own_retZ X0 hx hlk hret rfl (hb hby d2_85) ⟨congrArg (fun z => some (Value.int z)) ((show own_r_77 p0 = (0 : Int32) from (if_pos hc81)).symm.trans hbk), rfl, e0⟩ (by decide) (by decide)
    · refine own_st (fun _ k => XS.icmpYes X0.here hx rfl (pc0 := 81) (pc' := 86) rfl (hb hby d2_81) rfl ((own_i2 _ _ _).trans (own_nno hc81)) (by decide) (by decide) k) ?_
      show own_Go p e below _ (T0.setTop (mkF m 86 #[.val (.int p0)] []))
      exact B86 T0 X0 e0 ((show own_r_77 p0 = own_r_86 p0 from (if_neg hc81)).symm.trans hbk)
  have B61 : ∀ (T0 : State), Stand p l e ({ frames := 0, cells := 0, slots := 0, locals := 0 } : Room) s m #[(.int p0)] below meth c T0 [] 0 0 → T0.heap = h0 → own_r_61 p0 = own_r_0 p0 → own_Go p e below (own_Post s (own_P (some (.int (own_r_0 p0))) h0) ({ frames := 0, cells := 0, slots := 0, locals := 0 } : Room).cells ({ frames := 0, cells := 0, slots := 0, locals := 0 } : Room).slots) (T0.setTop (mkF m 61 #[.val (.int p0)] [])) := by
    intro T0 X0 e0 hbk
    show own_Go p e below _ (T0.setTop (mkF m 61 #[.val (.int p0)] []))
    refine own_st (fun _ k => XS.iloadN X0.here hx rfl (hb hby d2_61) rfl k) ?_
    show own_Go p e below _ (T0.setTop (mkF m 62 #[.val (.int p0)] [(.int p0)]))
    refine own_st (fun _ k => XS.sipush X0.here hx rfl (hb hby d2_62) k) ?_
    show own_Go p e below _ (T0.setTop (mkF m 65 #[.val (.int p0)] [(.int (768 : Int32)), (.int p0)]))
    by_cases hc65 : p0 < (768 : Int32)
    · refine own_st (fun _ k => XS.icmpYes X0.here hx rfl (pc0 := 65) (pc' := 77) rfl (hb hby d2_65) rfl ((own_i2 _ _ _).trans (own_yes hc65)) (by decide) (by decide) k) ?_
      show own_Go p e below _ (T0.setTop (mkF m 77 #[.val (.int p0)] []))
      exact B77 T0 X0 e0 ((show own_r_61 p0 = own_r_77 p0 from (if_pos hc65)).symm.trans hbk)
    · refine own_st (fun _ k => XS.icmpNo X0.here hx rfl (hb hby d2_65) rfl ((own_i2 _ _ _).trans (own_no hc65)) k) ?_
      show own_Go p e below _ (T0.setTop (mkF m 68 #[.val (.int p0)] []))
      refine own_st (fun _ k => XS.iloadN X0.here hx rfl (hb hby d2_68) rfl k) ?_
      show own_Go p e below _ (T0.setTop (mkF m 69 #[.val (.int p0)] [(.int p0)]))
      refine own_st (fun _ k => XS.sipush X0.here hx rfl (hb hby d2_69) k) ?_
      show own_Go p e below _ (T0.setTop (mkF m 72 #[.val (.int p0)] [(.int (879 : Int32)), (.int p0)]))
      by_cases hc72 : (879 : Int32) < p0
      · refine own_st (fun _ k => XS.icmpYes X0.here hx rfl (pc0 := 72) (pc' := 77) rfl (hb hby d2_72) rfl ((own_i2 _ _ _).trans (own_yes hc72)) (by decide) (by decide) k) ?_
        show own_Go p e below _ (T0.setTop (mkF m 77 #[.val (.int p0)] []))
        exact B77 T0 X0 e0 ((show own_r_61 p0 = own_r_77 p0 from ((if_neg hc65)).trans ((if_pos hc72))).symm.trans hbk)
      · refine own_st (fun _ k => XS.icmpNo X0.here hx rfl (hb hby d2_72) rfl ((own_i2 _ _ _).trans (own_no hc72)) k) ?_
        show own_Go p e below _ (T0.setTop (mkF m 75 #[.val (.int p0)] []))
        refine own_st (fun _ k => XS.iconst X0.here hx rfl (hb hby d2_75) k) ?_
        show own_Go p e below _ (T0.setTop (mkF m 76 #[.val (.int p0)] [(.int (0 : Int32))]))
        exact own_retZ X0 hx hlk hret rfl (hb hby d2_76) ⟨congrArg (fun z => some (Value.int z)) ((show own_r_61 p0 = (0 : Int32) from ((if_neg hc65)).trans ((if_neg hc72))).symm.trans hbk), rfl, e0⟩ (by decide) (by decide)
  have B59 : ∀ (T0 : State), Stand p l e ({ frames := 0, cells := 0, slots := 0, locals := 0 } : Room) s m #[(.int p0)] below meth c T0 [] 0 0 → T0.heap = h0 → own_r_59 p0 = own_r_0 p0 → own_Go p e below (own_Post s (own_P (some (.int (own_r_0 p0))) h0) ({ frames := 0, cells := 0, slots := 0, locals := 0 } : Room).cells ({ frames := 0, cells := 0, slots := 0, locals := 0 } : Room).slots) (T0.setTop (mkF m 59 #[.val (.int p0)] [])) := by
    intro T0 X0 e0 hbk
    show own_Go p e below _ (T0.setTop (mkF m 59 #[.val (.int p0)] []))
    refine own_st (fun _ k => XS.iconst X0.here hx rfl (hb hby d2_59) k) ?_
    show own_Go p e below _ (T0.setTop (mkF m 60 #[.val (.int p0)] [(.int (0 : Int32))]))
    exact own_retZ X0 hx hlk hret rfl (hb hby d2_60) ⟨congrArg (fun z => some (Value.int z)) ((show own_r_59 p0 = (0 : Int32) from rfl).symm.trans hbk), rfl, e0⟩ (by decide) (by decide)
  have B45 : ∀ (T0 : State), Stand p l e ({ frames := 0, cells := 0, slots := 0, locals := 0 } : Room) s m #[(.int p0)] below meth c T0 [] 0 0 → T0.heap = h0 → own_r_45 p0 = own_r_0 p0 → own_Go p e below (own_Post s (own_P (some (.int (own_r_0 p0))) h0) ({ frames := 0, cells := 0, slots := 0, locals := 0 } : Room).cells ({ frames := 0, cells := 0, slots := 0, locals := 0 } : Room).slots) (T0.setTop (mkF m 45 #[.val (.int p0)] [])) := by
    intro T0 X0 e0 hbk
    show own_Go p e below _ (T0.setTop (mkF m 45 #[.val (.int p0)] []))
    refine own_st (fun _ k => XS.iloadN X0.here hx rfl (hb hby d2_45) rfl k) ?_
    show own_Go p e below _ (T0.setTop (mkF m 46 #[.val (.int p0)] [(.int p0)]))
    refine own_st (fun _ k => XS.sipush X0.here hx rfl (hb hby d2_46) k) ?_
    show own_Go p e below _ (T0.setTop (mkF m 49 #[.val (.int p0)] [(.int (215 : Int32)), (.int p0)]))
    by_cases hc49 : p0 = (215 : Int32)
    · refine own_st (fun _ k => XS.icmpYes X0.here hx rfl (pc0 := 49) (pc' := 59) rfl (hb hby d2_49) rfl ((own_i2 _ _ _).trans (own_yes hc49)) (by decide) (by decide) k) ?_
      show own_Go p e below _ (T0.setTop (mkF m 59 #[.val (.int p0)] []))
      exact B59 T0 X0 e0 ((show own_r_45 p0 = own_r_59 p0 from (if_pos hc49)).symm.trans hbk)
    · refine own_st (fun _ k => XS.icmpNo X0.here hx rfl (hb hby d2_49) rfl ((own_i2 _ _ _).trans (own_no hc49)) k) ?_
      show own_Go p e below _ (T0.setTop (mkF m 52 #[.val (.int p0)] []))
      refine own_st (fun _ k => XS.iloadN X0.here hx rfl (hb hby d2_52) rfl k) ?_
      show own_Go p e below _ (T0.setTop (mkF m 53 #[.val (.int p0)] [(.int p0)]))
      refine own_st (fun _ k => XS.sipush X0.here hx rfl (hb hby d2_53) k) ?_
      show own_Go p e below _ (T0.setTop (mkF m 56 #[.val (.int p0)] [(.int (247 : Int32)), (.int p0)]))
      by_cases hc56 : p0 = (247 : Int32)
      · refine own_st (fun _ k => XS.icmpNo X0.here hx rfl (hb hby d2_56) rfl ((own_i2 _ _ _).trans (own_nyes hc56)) k) ?_
        show own_Go p e below _ (T0.setTop (mkF m 59 #[.val (.int p0)] []))
        exact B59 T0 X0 e0 ((show own_r_45 p0 = own_r_59 p0 from ((if_neg hc49)).trans ((if_pos hc56))).symm.trans hbk)
      · refine own_st (fun _ k => XS.icmpYes X0.here hx rfl (pc0 := 56) (pc' := 61) rfl (hb hby d2_56) rfl ((own_i2 _ _ _).trans (own_nno hc56)) (by decide) (by decide) k) ?_
        show own_Go p e below _ (T0.setTop (mkF m 61 #[.val (.int p0)] []))
        exact B61 T0 X0 e0 ((show own_r_45 p0 = own_r_61 p0 from ((if_neg hc49)).trans ((if_neg hc56))).symm.trans hbk)
  have B30 : ∀ (T0 : State), Stand p l e ({ frames := 0, cells := 0, slots := 0, locals := 0 } : Room) s m #[(.int p0)] below meth c T0 [] 0 0 → T0.heap = h0 → own_r_30 p0 = own_r_0 p0 → own_Go p e below (own_Post s (own_P (some (.int (own_r_0 p0))) h0) ({ frames := 0, cells := 0, slots := 0, locals := 0 } : Room).cells ({ frames := 0, cells := 0, slots := 0, locals := 0 } : Room).slots) (T0.setTop (mkF m 30 #[.val (.int p0)] [])) := by
    intro T0 X0 e0 hbk
    show own_Go p e below _ (T0.setTop (mkF m 30 #[.val (.int p0)] []))
    refine own_st (fun _ k => XS.iloadN X0.here hx rfl (hb hby d2_30) rfl k) ?_
    show own_Go p e below _ (T0.setTop (mkF m 31 #[.val (.int p0)] [(.int p0)]))
    refine own_st (fun _ k => XS.bipush X0.here hx rfl (hb hby d2_31) k) ?_
    show own_Go p e below _ (T0.setTop (mkF m 33 #[.val (.int p0)] [(.int (123 : Int32)), (.int p0)]))
    by_cases hc33 : p0 < (123 : Int32)
    · refine own_st (fun _ k => XS.icmpYes X0.here hx rfl (pc0 := 33) (pc' := 45) rfl (hb hby d2_33) rfl ((own_i2 _ _ _).trans (own_yes hc33)) (by decide) (by decide) k) ?_
      show own_Go p e below _ (T0.setTop (mkF m 45 #[.val (.int p0)] []))
      exact B45 T0 X0 e0 ((show own_r_30 p0 = own_r_45 p0 from (if_pos hc33)).symm.trans hbk)
    · refine own_st (fun _ k => XS.icmpNo X0.here hx rfl (hb hby d2_33) rfl ((own_i2 _ _ _).trans (own_no hc33)) k) ?_
      show own_Go p e below _ (T0.setTop (mkF m 36 #[.val (.int p0)] []))
      refine own_st (fun _ k => XS.iloadN X0.here hx rfl (hb hby d2_36) rfl k) ?_
      show own_Go p e below _ (T0.setTop (mkF m 37 #[.val (.int p0)] [(.int p0)]))
      refine own_st (fun _ k => XS.sipush X0.here hx rfl (hb hby d2_37) k) ?_
      show own_Go p e below _ (T0.setTop (mkF m 40 #[.val (.int p0)] [(.int (191 : Int32)), (.int p0)]))
      by_cases hc40 : (191 : Int32) < p0
      · refine own_st (fun _ k => XS.icmpYes X0.here hx rfl (pc0 := 40) (pc' := 45) rfl (hb hby d2_40) rfl ((own_i2 _ _ _).trans (own_yes hc40)) (by decide) (by decide) k) ?_
        show own_Go p e below _ (T0.setTop (mkF m 45 #[.val (.int p0)] []))
        exact B45 T0 X0 e0 ((show own_r_30 p0 = own_r_45 p0 from ((if_neg hc33)).trans ((if_pos hc40))).symm.trans hbk)
      · refine own_st (fun _ k => XS.icmpNo X0.here hx rfl (hb hby d2_40) rfl ((own_i2 _ _ _).trans (own_no hc40)) k) ?_
        show own_Go p e below _ (T0.setTop (mkF m 43 #[.val (.int p0)] []))
        refine own_st (fun _ k => XS.iconst X0.here hx rfl (hb hby d2_43) k) ?_
        show own_Go p e below _ (T0.setTop (mkF m 44 #[.val (.int p0)] [(.int (0 : Int32))]))
        exact own_retZ X0 hx hlk hret rfl (hb hby d2_44) ⟨congrArg (fun z => some (Value.int z)) ((show own_r_30 p0 = (0 : Int32) from ((if_neg hc33)).trans ((if_neg hc40))).symm.trans hbk), rfl, e0⟩ (by decide) (by decide)
  have B16 : ∀ (T0 : State), Stand p l e ({ frames := 0, cells := 0, slots := 0, locals := 0 } : Room) s m #[(.int p0)] below meth c T0 [] 0 0 → T0.heap = h0 → own_r_16 p0 = own_r_0 p0 → own_Go p e below (own_Post s (own_P (some (.int (own_r_0 p0))) h0) ({ frames := 0, cells := 0, slots := 0, locals := 0 } : Room).cells ({ frames := 0, cells := 0, slots := 0, locals := 0 } : Room).slots) (T0.setTop (mkF m 16 #[.val (.int p0)] [])) := by
    intro T0 X0 e0 hbk
    show own_Go p e below _ (T0.setTop (mkF m 16 #[.val (.int p0)] []))
    refine own_st (fun _ k => XS.iloadN X0.here hx rfl (hb hby d2_16) rfl k) ?_
    show own_Go p e below _ (T0.setTop (mkF m 17 #[.val (.int p0)] [(.int p0)]))
    refine own_st (fun _ k => XS.bipush X0.here hx rfl (hb hby d2_17) k) ?_
    show own_Go p e below _ (T0.setTop (mkF m 19 #[.val (.int p0)] [(.int (91 : Int32)), (.int p0)]))
    by_cases hc19 : p0 < (91 : Int32)
    · refine own_st (fun _ k => XS.icmpYes X0.here hx rfl (pc0 := 19) (pc' := 30) rfl (hb hby d2_19) rfl ((own_i2 _ _ _).trans (own_yes hc19)) (by decide) (by decide) k) ?_
      show own_Go p e below _ (T0.setTop (mkF m 30 #[.val (.int p0)] []))
      exact B30 T0 X0 e0 ((show own_r_16 p0 = own_r_30 p0 from (if_pos hc19)).symm.trans hbk)
    · refine own_st (fun _ k => XS.icmpNo X0.here hx rfl (hb hby d2_19) rfl ((own_i2 _ _ _).trans (own_no hc19)) k) ?_
      show own_Go p e below _ (T0.setTop (mkF m 22 #[.val (.int p0)] []))
      refine own_st (fun _ k => XS.iloadN X0.here hx rfl (hb hby d2_22) rfl k) ?_
      show own_Go p e below _ (T0.setTop (mkF m 23 #[.val (.int p0)] [(.int p0)]))
      refine own_st (fun _ k => XS.bipush X0.here hx rfl (hb hby d2_23) k) ?_
      show own_Go p e below _ (T0.setTop (mkF m 25 #[.val (.int p0)] [(.int (96 : Int32)), (.int p0)]))
      by_cases hc25 : (96 : Int32) < p0
      · refine own_st (fun _ k => XS.icmpYes X0.here hx rfl (pc0 := 25) (pc' := 30) rfl (hb hby d2_25) rfl ((own_i2 _ _ _).trans (own_yes hc25)) (by decide) (by decide) k) ?_
        show own_Go p e below _ (T0.setTop (mkF m 30 #[.val (.int p0)] []))
        exact B30 T0 X0 e0 ((show own_r_16 p0 = own_r_30 p0 from ((if_neg hc19)).trans ((if_pos hc25))).symm.trans hbk)
      · refine own_st (fun _ k => XS.icmpNo X0.here hx rfl (hb hby d2_25) rfl ((own_i2 _ _ _).trans (own_no hc25)) k) ?_
        show own_Go p e below _ (T0.setTop (mkF m 28 #[.val (.int p0)] []))
        refine own_st (fun _ k => XS.iconst X0.here hx rfl (hb hby d2_28) k) ?_
        show own_Go p e below _ (T0.setTop (mkF m 29 #[.val (.int p0)] [(.int (0 : Int32))]))
        exact own_retZ X0 hx hlk hret rfl (hb hby d2_29) ⟨congrArg (fun z => some (Value.int z)) ((show own_r_16 p0 = (0 : Int32) from ((if_neg hc19)).trans ((if_neg hc25))).symm.trans hbk), rfl, e0⟩ (by decide) (by decide)
  have B8 : ∀ (T0 : State), Stand p l e ({ frames := 0, cells := 0, slots := 0, locals := 0 } : Room) s m #[(.int p0)] below meth c T0 [] 0 0 → T0.heap = h0 → own_r_8 p0 = own_r_0 p0 → own_Go p e below (own_Post s (own_P (some (.int (own_r_0 p0))) h0) ({ frames := 0, cells := 0, slots := 0, locals := 0 } : Room).cells ({ frames := 0, cells := 0, slots := 0, locals := 0 } : Room).slots) (T0.setTop (mkF m 8 #[.val (.int p0)] [])) := by
    intro T0 X0 e0 hbk
    show own_Go p e below _ (T0.setTop (mkF m 8 #[.val (.int p0)] []))
    refine own_st (fun _ k => XS.iloadN X0.here hx rfl (hb hby d2_8) rfl k) ?_
    show own_Go p e below _ (T0.setTop (mkF m 9 #[.val (.int p0)] [(.int p0)]))
    refine own_st (fun _ k => X0.ldcInt hx hown (mvT hZ (hw _ (List.mem_of_getElem? (i := 13) rfl))) (g := (mkF m 9 #[.val (.int p0)] [(.int p0)])) rfl (hb hby d2_9) _ k) ?_
    show own_Go p e below _ (T0.setTop (mkF m 11 #[.val (.int p0)] [(.int (983039 : Int32)), (.int p0)]))
    by_cases hc11 : (983039 : Int32) < p0
    · refine own_st (fun _ k => XS.icmpNo X0.here hx rfl (hb hby d2_11) rfl ((own_i2 _ _ _).trans (own_nyes hc11)) k) ?_
      show own_Go p e below _ (T0.setTop (mkF m 14 #[.val (.int p0)] []))
      refine own_st (fun _ k => XS.iconst X0.here hx rfl (hb hby d2_14) k) ?_
      show own_Go p e below _ (T0.setTop (mkF m 15 #[.val (.int p0)] [(.int (0 : Int32))]))
      exact own_retZ X0 hx hlk hret rfl (hb hby d2_15) ⟨congrArg (fun z => some (Value.int z)) ((show own_r_8 p0 = (0 : Int32) from (if_pos hc11)).symm.trans hbk), rfl, e0⟩ (by decide) (by decide)
    · refine own_st (fun _ k => XS.icmpYes X0.here hx rfl (pc0 := 11) (pc' := 16) rfl (hb hby d2_11) rfl ((own_i2 _ _ _).trans (own_nno hc11)) (by decide) (by decide) k) ?_
      show own_Go p e below _ (T0.setTop (mkF m 16 #[.val (.int p0)] []))
      exact B16 T0 X0 e0 ((show own_r_8 p0 = own_r_16 p0 from (if_neg hc11)).symm.trans hbk)
  have B0 : ∀ (T0 : State), Stand p l e ({ frames := 0, cells := 0, slots := 0, locals := 0 } : Room) s m #[(.int p0)] below meth c T0 [] 0 0 → T0.heap = h0 → own_r_0 p0 = own_r_0 p0 → own_Go p e below (own_Post s (own_P (some (.int (own_r_0 p0))) h0) ({ frames := 0, cells := 0, slots := 0, locals := 0 } : Room).cells ({ frames := 0, cells := 0, slots := 0, locals := 0 } : Room).slots) (T0.setTop (mkF m 0 #[.val (.int p0)] [])) := by
    intro T0 X0 e0 hbk
    show own_Go p e below _ (T0.setTop (mkF m 0 #[.val (.int p0)] []))
    refine own_st (fun _ k => XS.iloadN X0.here hx rfl (hb hby d2_0) rfl k) ?_
    show own_Go p e below _ (T0.setTop (mkF m 1 #[.val (.int p0)] [(.int p0)]))
    refine own_st (fun _ k => XS.bipush X0.here hx rfl (hb hby d2_1) k) ?_
    show own_Go p e below _ (T0.setTop (mkF m 3 #[.val (.int p0)] [(.int (65 : Int32)), (.int p0)]))
    by_cases hc3 : p0 < (65 : Int32)
    · refine own_st (fun _ k => XS.icmpNo X0.here hx rfl (hb hby d2_3) rfl ((own_i2 _ _ _).trans (own_nyes hc3)) k) ?_
      show own_Go p e below _ (T0.setTop (mkF m 6 #[.val (.int p0)] []))
      refine own_st (fun _ k => XS.iconst X0.here hx rfl (hb hby d2_6) k) ?_
      show own_Go p e below _ (T0.setTop (mkF m 7 #[.val (.int p0)] [(.int (0 : Int32))]))
      exact own_retZ X0 hx hlk hret rfl (hb hby d2_7) ⟨congrArg (fun z => some (Value.int z)) ((show own_r_0 p0 = (0 : Int32) from (if_pos hc3)).symm.trans hbk), rfl, e0⟩ (by decide) (by decide)
    · refine own_st (fun _ k => XS.icmpYes X0.here hx rfl (pc0 := 3) (pc' := 8) rfl (hb hby d2_3) rfl ((own_i2 _ _ _).trans (own_nno hc3)) (by decide) (by decide) k) ?_
      show own_Go p e below _ (T0.setTop (mkF m 8 #[.val (.int p0)] []))
      exact B8 T0 X0 e0 ((show own_r_0 p0 = own_r_8 p0 from (if_neg hc3)).symm.trans hbk)
  rw [ef_2]
  exact B0 _ X0 e0 rfl
def own_Ks : List Int32 := [0, 1, 65, 90, 91, 96, 97, 122, 123, 191, 192, 214, 215, 216, 246, 247, 248, 767, 768, 879, 880, 893, 894, 895, 8191, 8192, 8203, 8204, 8205, 8206, 8303, 8304, 8591, 8592, 11263, 11264, 12271, 12272, 12288, 12289, 55295, 55296, 63743, 63744, 64975, 64976, 65007, 65008, 65533, 65534, 65535, 65536, 983039]
def own_pts : List Int32 := [-2147483648, 0, 1, 2, 65, 66, 90, 91, 92, 96, 97, 98, 122, 123, 124, 191, 192, 193, 214, 215, 216, 217, 246, 247, 248, 249, 767, 768, 769, 879, 880, 881, 893, 894, 895, 896, 8191, 8192, 8193, 8203, 8204, 8205, 8206, 8207, 8303, 8304, 8305, 8591, 8592, 8593, 11263, 11264, 11265, 12271, 12272, 12273, 12288, 12289, 12290, 55295, 55296, 55297, 63743, 63744, 63745, 64975, 64976, 64977, 65007, 65008, 65009, 65533, 65534, 65535, 65536, 65537, 983039, 983040]
def own_E (x y : Int32) : Prop := ∀ k ∈ own_Ks, (x < k ↔ y < k) ∧ (k < x ↔ k < y) ∧ (x = k ↔ y = k)
theorem own_ite {P Q : Prop} [Decidable P] [Decidable Q] {a b a' b' : Int32} (h : P ↔ Q) (h1 : a = a') (h2 : b = b') : (if P then a else b) = (if Q then a' else b') := by
  subst h1 h2
  by_cases q : P
  · rw [if_pos q, if_pos (h.mp q)]
  · rw [if_neg q, if_neg fun r => q (h.mpr r)]
/-- the greatest of a list's members that isn't above x -/
theorem own_top (x : Int32) : ∀ L : List Int32, (∃ q ∈ L, q ≤ x) → ∃ r ∈ L, r ≤ x ∧ ∀ q ∈ L, q ≤ x → q ≤ r
  | [], h => by obtain ⟨q, h1, -⟩ := h; cases h1
  | a :: L, h => by
    by_cases hL : ∃ q ∈ L, q ≤ x
    · obtain ⟨r, h1, h2, h3⟩ := own_top x L hL
      by_cases ha : a ≤ x ∧ r ≤ a
      · refine ⟨a, List.mem_cons_self .., ha.1, fun q hq hx => ?_⟩
        rcases List.mem_cons.mp hq with rfl | hq
        · exact Int32.le_refl _
        · exact Int32.le_trans (h3 q hq hx) ha.2
      · refine ⟨r, List.mem_cons_of_mem _ h1, h2, fun q hq hx => ?_⟩
        rcases List.mem_cons.mp hq with rfl | hq
        · rcases Int32.le_total q r with z | z
          · exact z
          · exact absurd ⟨hx, z⟩ ha
        · exact h3 q hq hx
    · obtain ⟨q, h1, h2⟩ := h
      rcases List.mem_cons.mp h1 with rfl | h1
      · refine ⟨q, List.mem_cons_self .., h2, fun r hr hx => ?_⟩
        rcases List.mem_cons.mp hr with rfl | hr
        · exact Int32.le_refl _
        · exact absurd ⟨r, hr, hx⟩ hL
      · exact absurd ⟨q, h1, h2⟩ hL
theorem own_kpts : ∀ k ∈ own_Ks, k ∈ own_pts ∧ (k + 1) ∈ own_pts ∧ (k + 1).toInt = k.toInt + 1 := by decide +kernel
theorem own_rep (x : Int32) : ∃ r ∈ own_pts, own_E x r := by
  obtain ⟨r, h1, h2, h3⟩ := own_top x own_pts ⟨-2147483648, by decide +kernel, by rw [Int32.le_iff_toInt_le]; exact x.le_toInt⟩
  refine ⟨r, h1, fun k hk => ?_⟩
  obtain ⟨k1, k2, k3⟩ := own_kpts k hk
  have q1 := h3 k k1
  have q2 := h3 (k + 1) k2
  simp only [Int32.le_iff_toInt_le, Int32.lt_iff_toInt_lt, ← Int32.toInt_inj] at *
  omega

theorem own_a_c189 {x y : Int32} (h : own_E x y) : own_a_189 x = own_a_189 y := rfl
theorem own_a_c185 {x y : Int32} (h : own_E x y) : own_a_185 x = own_a_185 y := rfl
theorem own_a_c173 {x y : Int32} (h : own_E x y) : own_a_173 x = own_a_173 y := (own_ite (h (65536 : Int32) (by decide)).1 (own_a_c189 h) (own_ite (h (983039 : Int32) (by decide)).2.1 (own_a_c189 h) (own_a_c185 h)))
theorem own_a_c161 {x y : Int32} (h : own_E x y) : own_a_161 x = own_a_161 y := (own_ite (h (65008 : Int32) (by decide)).1 (own_a_c173 h) (own_ite (h (65533 : Int32) (by decide)).2.1 (own_a_c173 h) (own_a_c185 h)))
theorem own_a_c149 {x y : Int32} (h : own_E x y) : own_a_149 x = own_a_149 y := (own_ite (h (63744 : Int32) (by decide)).1 (own_a_c161 h) (own_ite (h (64975 : Int32) (by decide)).2.1 (own_a_c161 h) (own_a_c185 h)))
theorem own_a_c136 {x y : Int32} (h : own_E x y) : own_a_136 x = own_a_136 y := (own_ite (h (12289 : Int32) (by decide)).1 (own_a_c149 h) (own_ite (h (55295 : Int32) (by decide)).2.1 (own_a_c149 h) (own_a_c185 h)))
theorem own_a_c122 {x y : Int32} (h : own_E x y) : own_a_122 x = own_a_122 y := (own_ite (h (11264 : Int32) (by decide)).1 (own_a_c136 h) (own_ite (h (12271 : Int32) (by decide)).2.1 (own_a_c136 h) (own_a_c185 h)))
theorem own_a_c108 {x y : Int32} (h : own_E x y) : own_a_108 x = own_a_108 y := (own_ite (h (8304 : Int32) (by decide)).1 (own_a_c122 h) (own_ite (h (8591 : Int32) (by decide)).2.1 (own_a_c122 h) (own_a_c185 h)))
theorem own_a_c94 {x y : Int32} (h : own_E x y) : own_a_94 x = own_a_94 y := (own_ite (h (8204 : Int32) (by decide)).1 (own_a_c108 h) (own_ite (h (8205 : Int32) (by decide)).2.1 (own_a_c108 h) (own_a_c185 h)))
theorem own_a_c80 {x y : Int32} (h : own_E x y) : own_a_80 x = own_a_80 y := (own_ite (h (895 : Int32) (by decide)).1 (own_a_c94 h) (own_ite (h (8191 : Int32) (by decide)).2.1 (own_a_c94 h) (own_a_c185 h)))
theorem own_a_c66 {x y : Int32} (h : own_E x y) : own_a_66 x = own_a_66 y := (own_ite (h (880 : Int32) (by decide)).1 (own_a_c80 h) (own_ite (h (893 : Int32) (by decide)).2.1 (own_a_c80 h) (own_a_c185 h)))
theorem own_a_c52 {x y : Int32} (h : own_E x y) : own_a_52 x = own_a_52 y := (own_ite (h (248 : Int32) (by decide)).1 (own_a_c66 h) (own_ite (h (767 : Int32) (by decide)).2.1 (own_a_c66 h) (own_a_c185 h)))
theorem own_a_c38 {x y : Int32} (h : own_E x y) : own_a_38 x = own_a_38 y := (own_ite (h (216 : Int32) (by decide)).1 (own_a_c52 h) (own_ite (h (246 : Int32) (by decide)).2.1 (own_a_c52 h) (own_a_c185 h)))
theorem own_a_c24 {x y : Int32} (h : own_E x y) : own_a_24 x = own_a_24 y := (own_ite (h (192 : Int32) (by decide)).1 (own_a_c38 h) (own_ite (h (214 : Int32) (by decide)).2.1 (own_a_c38 h) (own_a_c185 h)))
theorem own_a_c12 {x y : Int32} (h : own_E x y) : own_a_12 x = own_a_12 y := (own_ite (h (65 : Int32) (by decide)).1 (own_a_c24 h) (own_ite (h (90 : Int32) (by decide)).2.1 (own_a_c24 h) (own_a_c185 h)))
theorem own_a_c0 {x y : Int32} (h : own_E x y) : own_a_0 x = own_a_0 y := (own_ite (h (97 : Int32) (by decide)).1 (own_a_c12 h) (own_ite (h (122 : Int32) (by decide)).2.1 (own_a_c12 h) (own_a_c185 h)))
theorem own_r_c192 {x y : Int32} (h : own_E x y) : own_r_192 x = own_r_192 y := rfl
theorem own_r_c178 {x y : Int32} (h : own_E x y) : own_r_178 x = own_r_178 y := (own_ite (h (65534 : Int32) (by decide)).1 (own_r_c192 h) (own_ite (h (65535 : Int32) (by decide)).2.1 (own_r_c192 h) rfl))
theorem own_r_c164 {x y : Int32} (h : own_E x y) : own_r_164 x = own_r_164 y := (own_ite (h (64976 : Int32) (by decide)).1 (own_r_c178 h) (own_ite (h (65007 : Int32) (by decide)).2.1 (own_r_c178 h) rfl))
theorem own_r_c150 {x y : Int32} (h : own_E x y) : own_r_150 x = own_r_150 y := (own_ite (h (55296 : Int32) (by decide)).1 (own_r_c164 h) (own_ite (h (63743 : Int32) (by decide)).2.1 (own_r_c164 h) rfl))
theorem own_r_c134 {x y : Int32} (h : own_E x y) : own_r_134 x = own_r_134 y := (own_ite (h (12272 : Int32) (by decide)).1 (own_r_c150 h) (own_ite (h (12288 : Int32) (by decide)).2.1 (own_r_c150 h) rfl))
theorem own_r_c118 {x y : Int32} (h : own_E x y) : own_r_118 x = own_r_118 y := (own_ite (h (8592 : Int32) (by decide)).1 (own_r_c134 h) (own_ite (h (11263 : Int32) (by decide)).2.1 (own_r_c134 h) rfl))
theorem own_r_c102 {x y : Int32} (h : own_E x y) : own_r_102 x = own_r_102 y := (own_ite (h (8206 : Int32) (by decide)).1 (own_r_c118 h) (own_ite (h (8303 : Int32) (by decide)).2.1 (own_r_c118 h) rfl))
theorem own_r_c86 {x y : Int32} (h : own_E x y) : own_r_86 x = own_r_86 y := (own_ite (h (8192 : Int32) (by decide)).1 (own_r_c102 h) (own_ite (h (8203 : Int32) (by decide)).2.1 (own_r_c102 h) rfl))
theorem own_r_c77 {x y : Int32} (h : own_E x y) : own_r_77 x = own_r_77 y := (own_ite (h (894 : Int32) (by decide)).2.2 rfl (own_r_c86 h))
theorem own_r_c61 {x y : Int32} (h : own_E x y) : own_r_61 x = own_r_61 y := (own_ite (h (768 : Int32) (by decide)).1 (own_r_c77 h) (own_ite (h (879 : Int32) (by decide)).2.1 (own_r_c77 h) rfl))
theorem own_r_c59 {x y : Int32} (h : own_E x y) : own_r_59 x = own_r_59 y := rfl
theorem own_r_c45 {x y : Int32} (h : own_E x y) : own_r_45 x = own_r_45 y := (own_ite (h (215 : Int32) (by decide)).2.2 (own_r_c59 h) (own_ite (h (247 : Int32) (by decide)).2.2 (own_r_c59 h) (own_r_c61 h)))
theorem own_r_c30 {x y : Int32} (h : own_E x y) : own_r_30 x = own_r_30 y := (own_ite (h (123 : Int32) (by decide)).1 (own_r_c45 h) (own_ite (h (191 : Int32) (by decide)).2.1 (own_r_c45 h) rfl))
theorem own_r_c16 {x y : Int32} (h : own_E x y) : own_r_16 x = own_r_16 y := (own_ite (h (91 : Int32) (by decide)).1 (own_r_c30 h) (own_ite (h (96 : Int32) (by decide)).2.1 (own_r_c30 h) rfl))
theorem own_r_c8 {x y : Int32} (h : own_E x y) : own_r_8 x = own_r_8 y := (own_ite (h (983039 : Int32) (by decide)).2.1 rfl (own_r_c16 h))
theorem own_r_c0 {x y : Int32} (h : own_E x y) : own_r_0 x = own_r_0 y := (own_ite (h (65 : Int32) (by decide)).1 rfl (own_r_c8 h))
theorem own_chk : ∀ q ∈ own_pts, own_a_0 q = own_r_0 q := by decide +kernel
theorem own_law (x : Int32) : own_a_0 x = own_r_0 x := by
  obtain ⟨r, h1, h2⟩ := own_rep x
  rw [own_a_c0 h2, own_r_c0 h2]
  exact own_chk r h1
theorem pn_0 : plainFor (⟨"com/example/hornbeam/hornbeam/rdf/NameCharactersIsPnCharsBasePinLaw", "law", "(III)Z"⟩ : MethodName) = true := plainFor_of_name (by first | (simp [plainName, overriddenIn]; done) | decide +kernel)
theorem ef_0 (m : MethodId) (x0 : Int32) (x1 : Int32) (x2 : Int32) : entryFrame m #[(.int x0), (.int x1), (.int x2)] maxLocals = mkF m 0 #[.val (.int x0), .val (.int x1), .val (.int x2), .unset, .unset] [] := by first | (simp [entryFrame, mkF, argsToLocals, Value.category, maxLocals]; done) | rfl
set_option maxRecDepth 65536 in
set_option maxHeartbeats 40000000 in
theorem rm0 (l : Launch) (Z : State) (tA : Array Value) (hw : ∀ d ∈ tables_1, d.before tA Z = true) (p0 : Int32) (p1 : Int32) (p2 : Int32) (h0 : Heap) (n0 : Nat) (Z0 : n0 ≤ h0.size) :
    MetFree l x (head1 (Jvm.Cond.code x code maxLocals ret :: tables_1) room_1) (fun a U => a = #[(.int p0), (.int p1), (.int p2)] ∧ Z.Warmed39 U.vm ∧ U.heap = h0) (fun _ _ _ _ _ => True) (fun _ U o U' => own_Post U (fun v _ L => v = some (.int (1 : Int32)) ∧ Fr n0 L) 0 0 o U') := by
  refine own_body pn_0 ?_
  intro p e s m below meth c s₁ X0 hx hZ hby hml hown hret hlk hnm e0
  have N0 := Fr.nil n0
  rw [ef_0]
  show own_Go p e below _ (s₁.setTop (mkF m 0 #[.val (.int p0), .val (.int p1), .val (.int p2), .unset, .unset] []))
  refine own_st (fun _ k => XS.iloadN X0.here hx rfl (hb hby at_0) rfl k) ?_
  show own_Go p e below _ (s₁.setTop (mkF m 1 #[.val (.int p0), .val (.int p1), .val (.int p2), .unset, .unset] [(.int p1)]))
  refine own_st (fun _ k => X0.ldcInt hx hown (mvT hZ (hw _ (List.mem_of_getElem? (i := 0) rfl))) (g := (mkF m 1 #[.val (.int p0), .val (.int p1), .val (.int p2), .unset, .unset] [(.int p1)])) rfl (hb hby at_1) _ k) ?_
  show own_Go p e below _ (s₁.setTop (mkF m 3 #[.val (.int p0), .val (.int p1), .val (.int p2), .unset, .unset] [(.int (65535 : Int32)), (.int p1)]))
  refine own_st (fun _ k => XS.iand X0.here hx rfl (hb hby at_3) rfl k) ?_
  show own_Go p e below _ (s₁.setTop (mkF m 4 #[.val (.int p0), .val (.int p1), .val (.int p2), .unset, .unset] [(.int (p1 &&& (65535 : Int32)))]))
  refine own_st (fun _ k => XS.istoreN X0.here hx rfl (hb hby at_4) rfl (l' := #[.val (.int p0), .val (.int p1), .val (.int p2), .val (.int (p1 &&& (65535 : Int32))), .unset]) rfl k) ?_
  show own_Go p e below _ (s₁.setTop (mkF m 5 #[.val (.int p0), .val (.int p1), .val (.int p2), .val (.int (p1 &&& (65535 : Int32))), .unset] []))
  refine own_st (fun _ k => XS.iloadN X0.here hx rfl (hb hby at_5) rfl k) ?_
  show own_Go p e below _ (s₁.setTop (mkF m 6 #[.val (.int p0), .val (.int p1), .val (.int p2), .val (.int (p1 &&& (65535 : Int32))), .unset] [(.int p2)]))
  refine own_st (fun _ k => X0.ldcInt hx hown (mvT hZ (hw _ (List.mem_of_getElem? (i := 1) rfl))) (g := (mkF m 6 #[.val (.int p0), .val (.int p1), .val (.int p2), .val (.int (p1 &&& (65535 : Int32))), .unset] [(.int p2)])) rfl (hb hby at_6) _ k) ?_
  show own_Go p e below _ (s₁.setTop (mkF m 8 #[.val (.int p0), .val (.int p1), .val (.int p2), .val (.int (p1 &&& (65535 : Int32))), .unset] [(.int (1048575 : Int32)), (.int p2)]))
  refine own_st (fun _ k => XS.iand X0.here hx rfl (hb hby at_8) rfl k) ?_
  show own_Go p e below _ (s₁.setTop (mkF m 9 #[.val (.int p0), .val (.int p1), .val (.int p2), .val (.int (p1 &&& (65535 : Int32))), .unset] [(.int (p2 &&& (1048575 : Int32)))]))
  refine own_st (fun _ k => XS.istore X0.here hx rfl (hb hby at_9) rfl (l' := #[.val (.int p0), .val (.int p1), .val (.int p2), .val (.int (p1 &&& (65535 : Int32))), .val (.int (p2 &&& (1048575 : Int32)))]) rfl k) ?_
  show own_Go p e below _ (s₁.setTop (mkF m 11 #[.val (.int p0), .val (.int p1), .val (.int p2), .val (.int (p1 &&& (65535 : Int32))), .val (.int (p2 &&& (1048575 : Int32)))] []))
  refine own_st (fun _ k => XS.iloadN X0.here hx rfl (hb hby at_11) rfl k) ?_
  show own_Go p e below _ (s₁.setTop (mkF m 12 #[.val (.int p0), .val (.int p1), .val (.int p2), .val (.int (p1 &&& (65535 : Int32))), .val (.int (p2 &&& (1048575 : Int32)))] [(.int p0)]))
  obtain ⟨_, T1, _, X1, ⟨rfl, rfl, e1⟩, st1⟩ := own_callS X0 hx hZ (y := (⟨"com/example/hornbeam/hornbeam/rdf/NameCharacters", "isPnCharsBase", "(I)Z"⟩ : MethodName)) (argsL := [(.int p0)]) (rest := []) (W := 0) (g := (mkF m 12 #[.val (.int p0), .val (.int p1), .val (.int p2), .val (.int (p1 &&& (65535 : Int32))), .val (.int (p2 &&& (1048575 : Int32)))] [(.int p0)])) (rm1 l Z tA hw p0 h0) hown (hw _ (List.mem_of_getElem? (i := 2) rfl)) (hw _ (List.mem_of_getElem? (i := 3) rfl)) (hw _ (List.mem_of_getElem? (i := 4) rfl)) (hw _ (List.mem_of_getElem? (i := 5) rfl)) (by decide) e0 rfl (by rw [hml]; rfl) pd_0 rfl rfl (by show 2 * 0 + _ ≤ _; exact Nat.le_of_eq rfl) (hb hby at_12) (by decide) (by decide) (by decide) (by decide)
  replace X1 := own_flat X1
  refine own_st st1 ?_
  show own_Go p e below _ (T1.setTop (mkF m 15 #[.val (.int p0), .val (.int p1), .val (.int p2), .val (.int (p1 &&& (65535 : Int32))), .val (.int (p2 &&& (1048575 : Int32)))] [(.int (own_a_0 p0))]))
  refine own_st (fun _ k => XS.iloadN X1.here hx rfl (hb hby at_15) rfl k) ?_
  show own_Go p e below _ (T1.setTop (mkF m 16 #[.val (.int p0), .val (.int p1), .val (.int p2), .val (.int (p1 &&& (65535 : Int32))), .val (.int (p2 &&& (1048575 : Int32)))] [(.int p0), (.int (own_a_0 p0))]))
  obtain ⟨_, T2, _, X2, ⟨rfl, rfl, e2⟩, st2⟩ := own_callS X1 hx hZ (y := (⟨"com/example/hornbeam/hornbeam/rdf/NameCharactersIsPnCharsBasePinLaw", "ref", "(I)Z"⟩ : MethodName)) (argsL := [(.int p0)]) (rest := [(.int (own_a_0 p0))]) (W := 1) (g := (mkF m 16 #[.val (.int p0), .val (.int p1), .val (.int p2), .val (.int (p1 &&& (65535 : Int32))), .val (.int (p2 &&& (1048575 : Int32)))] [(.int p0), (.int (own_a_0 p0))])) (rm2 l Z tA hw p0 h0) hown (hw _ (List.mem_of_getElem? (i := 9) rfl)) (hw _ (List.mem_of_getElem? (i := 10) rfl)) (hw _ (List.mem_of_getElem? (i := 11) rfl)) (hw _ (List.mem_of_getElem? (i := 12) rfl)) (by decide) e1 rfl (by rw [hml]; rfl) pd_0 rfl rfl (by show 2 * 0 + _ ≤ _; exact Nat.le_of_eq rfl) (hb hby at_16) (by decide) (by decide) (by decide) (by decide)
  replace X2 := own_flat X2
  refine own_st st2 ?_
  show own_Go p e below _ (T2.setTop (mkF m 19 #[.val (.int p0), .val (.int p1), .val (.int p2), .val (.int (p1 &&& (65535 : Int32))), .val (.int (p2 &&& (1048575 : Int32)))] [(.int (own_r_0 p0)), (.int (own_a_0 p0))]))
  refine own_st (fun _ k => XS.icmpNo X2.here hx rfl (hb hby at_19) rfl ((own_i2 _ _ _).trans (own_nyes (own_law _))) k) ?_
  show own_Go p e below _ (T2.setTop (mkF m 22 #[.val (.int p0), .val (.int p1), .val (.int p2), .val (.int (p1 &&& (65535 : Int32))), .val (.int (p2 &&& (1048575 : Int32)))] []))
  refine own_st (fun _ k => XS.iloadN X2.here hx rfl (hb hby at_22) rfl k) ?_
  show own_Go p e below _ (T2.setTop (mkF m 23 #[.val (.int p0), .val (.int p1), .val (.int p2), .val (.int (p1 &&& (65535 : Int32))), .val (.int (p2 &&& (1048575 : Int32)))] [(.int (p1 &&& (65535 : Int32)))]))
  obtain ⟨_, T3, _, X3, ⟨rfl, rfl, e3⟩, st3⟩ := own_callS X2 hx hZ (y := (⟨"com/example/hornbeam/hornbeam/rdf/NameCharacters", "isPnCharsBase", "(I)Z"⟩ : MethodName)) (argsL := [(.int (p1 &&& (65535 : Int32)))]) (rest := []) (W := 0) (g := (mkF m 23 #[.val (.int p0), .val (.int p1), .val (.int p2), .val (.int (p1 &&& (65535 : Int32))), .val (.int (p2 &&& (1048575 : Int32)))] [(.int (p1 &&& (65535 : Int32)))])) (rm1 l Z tA hw (p1 &&& (65535 : Int32)) h0) hown (hw _ (List.mem_of_getElem? (i := 2) rfl)) (hw _ (List.mem_of_getElem? (i := 3) rfl)) (hw _ (List.mem_of_getElem? (i := 4) rfl)) (hw _ (List.mem_of_getElem? (i := 5) rfl)) (by decide) e2 rfl (by rw [hml]; rfl) pd_0 rfl rfl (by show 2 * 0 + _ ≤ _; exact Nat.le_of_eq rfl) (hb hby at_23) (by decide) (by decide) (by decide) (by decide)
  replace X3 := own_flat X3
  refine own_st st3 ?_
  show own_Go p e below _ (T3.setTop (mkF m 26 #[.val (.int p0), .val (.int p1), .val (.int p2), .val (.int (p1 &&& (65535 : Int32))), .val (.int (p2 &&& (1048575 : Int32)))] [(.int (own_a_0 (p1 &&& (65535 : Int32))))]))
  refine own_st (fun _ k => XS.iloadN X3.here hx rfl (hb hby at_26) rfl k) ?_
  show own_Go p e below _ (T3.setTop (mkF m 27 #[.val (.int p0), .val (.int p1), .val (.int p2), .val (.int (p1 &&& (65535 : Int32))), .val (.int (p2 &&& (1048575 : Int32)))] [(.int (p1 &&& (65535 : Int32))), (.int (own_a_0 (p1 &&& (65535 : Int32))))]))
  obtain ⟨_, T4, _, X4, ⟨rfl, rfl, e4⟩, st4⟩ := own_callS X3 hx hZ (y := (⟨"com/example/hornbeam/hornbeam/rdf/NameCharactersIsPnCharsBasePinLaw", "ref", "(I)Z"⟩ : MethodName)) (argsL := [(.int (p1 &&& (65535 : Int32)))]) (rest := [(.int (own_a_0 (p1 &&& (65535 : Int32))))]) (W := 1) (g := (mkF m 27 #[.val (.int p0), .val (.int p1), .val (.int p2), .val (.int (p1 &&& (65535 : Int32))), .val (.int (p2 &&& (1048575 : Int32)))] [(.int (p1 &&& (65535 : Int32))), (.int (own_a_0 (p1 &&& (65535 : Int32))))])) (rm2 l Z tA hw (p1 &&& (65535 : Int32)) h0) hown (hw _ (List.mem_of_getElem? (i := 9) rfl)) (hw _ (List.mem_of_getElem? (i := 10) rfl)) (hw _ (List.mem_of_getElem? (i := 11) rfl)) (hw _ (List.mem_of_getElem? (i := 12) rfl)) (by decide) e3 rfl (by rw [hml]; rfl) pd_0 rfl rfl (by show 2 * 0 + _ ≤ _; exact Nat.le_of_eq rfl) (hb hby at_27) (by decide) (by decide) (by decide) (by decide)
  replace X4 := own_flat X4
  refine own_st st4 ?_
  show own_Go p e below _ (T4.setTop (mkF m 30 #[.val (.int p0), .val (.int p1), .val (.int p2), .val (.int (p1 &&& (65535 : Int32))), .val (.int (p2 &&& (1048575 : Int32)))] [(.int (own_r_0 (p1 &&& (65535 : Int32)))), (.int (own_a_0 (p1 &&& (65535 : Int32))))]))
  refine own_st (fun _ k => XS.icmpNo X4.here hx rfl (hb hby at_30) rfl ((own_i2 _ _ _).trans (own_nyes (own_law _))) k) ?_
  show own_Go p e below _ (T4.setTop (mkF m 33 #[.val (.int p0), .val (.int p1), .val (.int p2), .val (.int (p1 &&& (65535 : Int32))), .val (.int (p2 &&& (1048575 : Int32)))] []))
  refine own_st (fun _ k => XS.iload X4.here hx rfl (hb hby at_33) rfl k) ?_
  show own_Go p e below _ (T4.setTop (mkF m 35 #[.val (.int p0), .val (.int p1), .val (.int p2), .val (.int (p1 &&& (65535 : Int32))), .val (.int (p2 &&& (1048575 : Int32)))] [(.int (p2 &&& (1048575 : Int32)))]))
  obtain ⟨_, T5, _, X5, ⟨rfl, rfl, e5⟩, st5⟩ := own_callS X4 hx hZ (y := (⟨"com/example/hornbeam/hornbeam/rdf/NameCharacters", "isPnCharsBase", "(I)Z"⟩ : MethodName)) (argsL := [(.int (p2 &&& (1048575 : Int32)))]) (rest := []) (W := 0) (g := (mkF m 35 #[.val (.int p0), .val (.int p1), .val (.int p2), .val (.int (p1 &&& (65535 : Int32))), .val (.int (p2 &&& (1048575 : Int32)))] [(.int (p2 &&& (1048575 : Int32)))])) (rm1 l Z tA hw (p2 &&& (1048575 : Int32)) h0) hown (hw _ (List.mem_of_getElem? (i := 2) rfl)) (hw _ (List.mem_of_getElem? (i := 3) rfl)) (hw _ (List.mem_of_getElem? (i := 4) rfl)) (hw _ (List.mem_of_getElem? (i := 5) rfl)) (by decide) e4 rfl (by rw [hml]; rfl) pd_0 rfl rfl (by show 2 * 0 + _ ≤ _; exact Nat.le_of_eq rfl) (hb hby at_35) (by decide) (by decide) (by decide) (by decide)
  replace X5 := own_flat X5
  refine own_st st5 ?_
  show own_Go p e below _ (T5.setTop (mkF m 38 #[.val (.int p0), .val (.int p1), .val (.int p2), .val (.int (p1 &&& (65535 : Int32))), .val (.int (p2 &&& (1048575 : Int32)))] [(.int (own_a_0 (p2 &&& (1048575 : Int32))))]))
  refine own_st (fun _ k => XS.iload X5.here hx rfl (hb hby at_38) rfl k) ?_
  show own_Go p e below _ (T5.setTop (mkF m 40 #[.val (.int p0), .val (.int p1), .val (.int p2), .val (.int (p1 &&& (65535 : Int32))), .val (.int (p2 &&& (1048575 : Int32)))] [(.int (p2 &&& (1048575 : Int32))), (.int (own_a_0 (p2 &&& (1048575 : Int32))))]))
  obtain ⟨_, T6, _, X6, ⟨rfl, rfl, e6⟩, st6⟩ := own_callS X5 hx hZ (y := (⟨"com/example/hornbeam/hornbeam/rdf/NameCharactersIsPnCharsBasePinLaw", "ref", "(I)Z"⟩ : MethodName)) (argsL := [(.int (p2 &&& (1048575 : Int32)))]) (rest := [(.int (own_a_0 (p2 &&& (1048575 : Int32))))]) (W := 1) (g := (mkF m 40 #[.val (.int p0), .val (.int p1), .val (.int p2), .val (.int (p1 &&& (65535 : Int32))), .val (.int (p2 &&& (1048575 : Int32)))] [(.int (p2 &&& (1048575 : Int32))), (.int (own_a_0 (p2 &&& (1048575 : Int32))))])) (rm2 l Z tA hw (p2 &&& (1048575 : Int32)) h0) hown (hw _ (List.mem_of_getElem? (i := 9) rfl)) (hw _ (List.mem_of_getElem? (i := 10) rfl)) (hw _ (List.mem_of_getElem? (i := 11) rfl)) (hw _ (List.mem_of_getElem? (i := 12) rfl)) (by decide) e5 rfl (by rw [hml]; rfl) pd_0 rfl rfl (by show 2 * 0 + _ ≤ _; exact Nat.le_of_eq rfl) (hb hby at_40) (by decide) (by decide) (by decide) (by decide)
  replace X6 := own_flat X6
  refine own_st st6 ?_
  show own_Go p e below _ (T6.setTop (mkF m 43 #[.val (.int p0), .val (.int p1), .val (.int p2), .val (.int (p1 &&& (65535 : Int32))), .val (.int (p2 &&& (1048575 : Int32)))] [(.int (own_r_0 (p2 &&& (1048575 : Int32)))), (.int (own_a_0 (p2 &&& (1048575 : Int32))))]))
  refine own_st (fun _ k => XS.icmpNo X6.here hx rfl (hb hby at_43) rfl ((own_i2 _ _ _).trans (own_nyes (own_law _))) k) ?_
  show own_Go p e below _ (T6.setTop (mkF m 46 #[.val (.int p0), .val (.int p1), .val (.int p2), .val (.int (p1 &&& (65535 : Int32))), .val (.int (p2 &&& (1048575 : Int32)))] []))
  refine own_st (fun _ k => XS.iconst X6.here hx rfl (hb hby at_46) k) ?_
  show own_Go p e below _ (T6.setTop (mkF m 47 #[.val (.int p0), .val (.int p1), .val (.int p2), .val (.int (p1 &&& (65535 : Int32))), .val (.int (p2 &&& (1048575 : Int32)))] [(.int (1 : Int32))]))
  refine own_st (fun _ k => XS.goto X6.here hx rfl (pc0 := 47) (pc' := 51) rfl (hb hby at_47) (by decide) (by decide) k) ?_
  show own_Go p e below _ (T6.setTop (mkF m 51 #[.val (.int p0), .val (.int p1), .val (.int p2), .val (.int (p1 &&& (65535 : Int32))), .val (.int (p2 &&& (1048575 : Int32)))] [(.int (1 : Int32))]))
  exact own_retZ X6 hx hlk hret rfl (hb hby at_51) ⟨rfl, N0⟩ (by decide) (by decide)
set_option maxRecDepth 65536 in
set_option maxHeartbeats 40000000 in
theorem comes_1 {Post : Tables → Env → Array Value → State → Outcome → State → Prop} (hpost : ∀ tb e args s v u, (limb_1_1.after args s (.returned v) u = true ∧ limb_1_2.after args s (.returned v) u = true ∧ True) → FrameEnd s (.returned v) u (Jvm.fieldLocs frame_1_writes args s ++ Jvm.arrayLocs frame_1_arrays args s ++ Jvm.staticLocs frame_1_statics s) 0 0 → Post tb e args s (.returned v) u) :
    ArmFor flags0 classFile x code maxLocals ret World_1 tables_1 room_1 Calls_1 rest_1 Pre_1 Post := by
  intro l hfl _ _ p e ha hc hk s m args below hf hA hF happ hP
  obtain ⟨hcalls, hrest, hpre⟩ := hP
  obtain ⟨-, -, -, hnamed, -, -, -, hat⟩ := (Spec.applies_iff hf).mp happ
  obtain ⟨hg, hn⟩ := and_e (Cond.before_iff.mp (show (Jvm.Cond.and given_1 narrow_1).before args s = true from hpre))
  obtain ⟨g1, g2⟩ := and_e hg
  obtain ⟨g3, g4⟩ := and_e g2
  obtain ⟨g5, g6⟩ := and_e g4
  obtain ⟨w0, w1, w2, rfl⟩ : ∃ w0 w1 w2 : Value, args = #[w0, w1, w2] := by
    have hs : args.size = 3 := by simpa [Cond.value, given_1] using g1
    obtain ⟨L⟩ := args
    match L, hs with
    | [w0, w1, w2], _ => exact ⟨w0, w1, w2, rfl⟩
  have hw := fun d (hd : d ∈ tables_1) => atoms_spec (ws := Jvm.Cond.code x code maxLocals ret :: tables_1) hat d (List.mem_cons_of_mem _ hd)
  obtain ⟨i0, ei0⟩ := is_v g3
  obtain rfl : w0 = (.int i0) := Option.some.inj ei0
  obtain ⟨i1, ei1⟩ := is_v g5
  obtain rfl : w1 = (.int i1) := Option.some.inj ei1
  obtain ⟨i2, ei2⟩ := is_v g6
  obtain rfl : w2 = (.int i2) := Option.some.inj ei2
  obtain ⟨n, o, h1, h2, h3, _, L, rfl, ⟨rfl, N⟩, hq⟩ := rm0 l s _ hw i0 i1 i2 s.heap s.heap.size (Nat.le_refl _) p e ha hc hk s m _ below hf ((Spec.applies_iff_loose hf).mp happ).1 ⟨rfl, State.Warmed39.refl s, rfl⟩ trivial
  refine ⟨n, _, h1, h2, h3, hpost _ _ _ _ _ _ ⟨Cond.after_iff.mpr rfl, Cond.after_iff.mpr (eq_i res_at (Term.int_eval (1)) rfl), trivial⟩ ⟨hq.1, hq.2.1, (hq.2.2.sift fun y hy => Or.inr (N y hy)).mono (by decide) (by decide)⟩⟩
theorem main_1_1 : Claimed_1_1 := comes_1 fun _ _ _ _ _ _ h hF => ⟨h.1, hF⟩
theorem main_1_2 : Claimed_1_2 := comes_1 fun _ _ _ _ _ _ h hF => ⟨h.2.1, hF⟩
end Jvm.Pilot.@@N@@
namespace Jvm.Pilot.@@N@@
open Jvm Jvm.ClassFile Sem Op Lib Jvm.Free Jvm.Stand Jvm.Pilot.@@N@@.Jvm.D
/-! MADE BY PROGRAM (witnessworld.py) out of the Statement's table words and the real class files: 9 classes; the members and pool entries that the words name. The judged class is class 1, her method 1. -/
namespace start1
open Jvm.ClassFile
def u (s : String) : CpInfo := .utf8 (stringToUtf16 s)
/-- a pool by its gaps: so many unusable entries, then the entry; so many at the end -/
def gap : Nat → List CpInfo → List CpInfo
  | 0, r => r
  | n + 1, r => .unusable :: gap n r
def poolList (es : List (Nat × CpInfo)) (last : Nat) : List CpInfo := es.foldr (fun e r => gap e.1 (e.2 :: r)) (gap last [])
def pool (es : List (Nat × CpInfo)) (last : Nat) : Array CpInfo := ⟨poolList es last⟩
def fileOf (pool : Array CpInfo) (this : Nat) (attrs : Array Attribute := #[]) (ms : Array MethodInfo := #[]) (fl : Nat := 33) (sup : Nat := 0) (ifs : Array Nat := #[]) (fds : Array FieldInfo := #[]) : ClassFile where
  minorVersion := 0
  majorVersion := 65
  constantPool := pool
  accessFlags := fl
  thisClass := this
  superClass := sup
  interfaces := ifs
  fields := fds
  methods := ms
  attributes := attrs
def plain (name : String) (sup : Option ClassId) : Class where
  name := name
  kind := .ordinary
  loader := none
  accessFlags := 33
  super := sup
  interfaces := #[]
  cf := none
  fields := #[]
  methods := #[]
  instanceTypes := #[]
  staticTypes := #[]
  resolved := #[]
  callSites := []
  init := .initialized
  statics := none
  mirror := none

def pool0 : Array CpInfo := pool [(5, u "<init>"), (0, u "()V"), (1, .class_ 10), (1, u "java/lang/Object")] 113

def k0m0 : Method := { name := "<init>", desc := "()V", sig := { parameters := [], returnType := none }, accessFlags := 1, code := none }
/-- java/lang/Object -/
def k0 : Class := { plain "java/lang/Object" none with
  accessFlags := 33
  interfaces := #[]
  cf := some (fileOf pool0 8 #[] #[{ accessFlags := 1, nameIndex := 5, descriptorIndex := 6, attributes := #[] }] 33 0 #[] #[])
  fields := #[]
  methods := #[k0m0]
  instanceTypes := #[]
  staticTypes := #[]
  resolved := Array.replicate 124 none
  statics := none }

def pool1 : Array CpInfo := pool [(2, .class_ 4), (1, u "java/lang/Object"), (0, u "<init>"), (0, u "()V"), (0, .integer 65535), (0, .integer 1048575), (0, .methodref 10 11), (0, .class_ 12), (0, .nameAndType 13 14), (0, u "com/example/hornbeam/hornbeam/rdf/NameCharacters"), (0, u "isPnCharsBase"), (0, u "(I)Z"), (0, .methodref 16 17), (0, .class_ 18), (0, .nameAndType 19 14), (0, u "com/example/hornbeam/hornbeam/rdf/NameCharactersIsPnCharsBasePinLaw"), (0, u "ref"), (0, .integer 983039), (0, .integer 55296), (0, .integer 63743), (0, .integer 64976), (0, .integer 65007), (0, .integer 65534), (2, u "law"), (0, u "(III)Z")] 3

def k1m0 : Method := { name := "<init>", desc := "()V", sig := { parameters := [], returnType := none }, accessFlags := 2, code := none }
def k1c1 : Code := { maxStack := 2, maxLocals := 5, code := code, exceptionTable := #[], attributes := #[] }
def k1m1 : Method := { name := "law", desc := "(III)Z", sig := { parameters := [.int, .int, .int], returnType := some .boolean }, accessFlags := 9, code := some k1c1 }
def k1c2 : Code := { maxStack := 2, maxLocals := 1, code := method_3_code, exceptionTable := #[], attributes := #[] }
def k1m2 : Method := { name := "ref", desc := "(I)Z", sig := { parameters := [.int], returnType := some .boolean }, accessFlags := 10, code := some k1c2 }
/-- com/example/hornbeam/hornbeam/rdf/NameCharactersIsPnCharsBasePinLaw -/
def k1 : Class := { plain "com/example/hornbeam/hornbeam/rdf/NameCharactersIsPnCharsBasePinLaw" (some 0) with
  accessFlags := 49
  interfaces := #[]
  cf := some (fileOf pool1 16 #[] #[{ accessFlags := 2, nameIndex := 5, descriptorIndex := 6, attributes := #[] }, { accessFlags := 9, nameIndex := 28, descriptorIndex := 29, attributes := #[] }, { accessFlags := 10, nameIndex := 19, descriptorIndex := 14, attributes := #[] }] 49 2 #[] #[])
  fields := #[]
  methods := #[k1m0, k1m1, k1m2]
  instanceTypes := #[]
  staticTypes := #[]
  resolved := Array.replicate 33 none
  statics := none }

def pool2 : Array CpInfo := pool [(2, .class_ 4), (1, u "java/lang/Object"), (0, u "<init>"), (0, u "()V"), (0, .integer 55295), (0, .integer 63744), (0, .integer 64975), (0, .integer 65008), (0, .integer 65533), (0, .integer 65536), (0, .integer 983039), (1, .class_ 17), (1, u "com/example/hornbeam/hornbeam/rdf/NameCharacters"), (0, u "isPnCharsBase"), (0, u "(I)Z")] 6

def k2m0 : Method := { name := "<init>", desc := "()V", sig := { parameters := [], returnType := none }, accessFlags := 2, code := none }
def k2c1 : Code := { maxStack := 2, maxLocals := 1, code := prog_63_method_2_code, exceptionTable := #[], attributes := #[] }
def k2m1 : Method := { name := "isPnCharsBase", desc := "(I)Z", sig := { parameters := [.int], returnType := some .boolean }, accessFlags := 8, code := some k2c1 }
/-- com/example/hornbeam/hornbeam/rdf/NameCharacters -/
def k2 : Class := { plain "com/example/hornbeam/hornbeam/rdf/NameCharacters" (some 0) with
  accessFlags := 48
  interfaces := #[]
  cf := some (fileOf pool2 15 #[] #[{ accessFlags := 2, nameIndex := 5, descriptorIndex := 6, attributes := #[] }, { accessFlags := 8, nameIndex := 18, descriptorIndex := 19, attributes := #[] }] 48 2 #[] #[])
  fields := #[]
  methods := #[k2m0, k2m1]
  instanceTypes := #[]
  staticTypes := #[]
  resolved := Array.replicate 26 none
  statics := none }

def pool3 : Array CpInfo := pool [(1, u "java/lang/Cloneable"), (0, .class_ 1), (0, u "java/lang/Object"), (0, .class_ 3)] 3

/-- java/lang/Cloneable -/
def k3 : Class := { plain "java/lang/Cloneable" (some 0) with
  accessFlags := 1537
  interfaces := #[]
  cf := some (fileOf pool3 2 #[] #[] 1537 4 #[] #[])
  fields := #[]
  methods := #[]
  instanceTypes := #[]
  staticTypes := #[]
  resolved := Array.replicate 8 none
  statics := none }

def pool4 : Array CpInfo := pool [(1, u "java/io/Serializable"), (0, .class_ 1), (0, u "java/lang/Object"), (0, .class_ 3)] 3

/-- java/io/Serializable -/
def k4 : Class := { plain "java/io/Serializable" (some 0) with
  accessFlags := 1537
  interfaces := #[]
  cf := some (fileOf pool4 2 #[] #[] 1537 4 #[] #[])
  fields := #[]
  methods := #[]
  instanceTypes := #[]
  staticTypes := #[]
  resolved := Array.replicate 8 none
  statics := none }

/-- the primitive byte -/
def k5 : Class := { plain "byte" none with kind := .primitive 'B', accessFlags := 0x411 }
/-- [B -/
def k6 : Class := { plain "[B" (some 0) with kind := .array 5 .byte, interfaces := #[3, 4], accessFlags := 1041 }

/-- the primitive int -/
def k7 : Class := { plain "int" none with kind := .primitive 'I', accessFlags := 0x411 }
/-- [I -/
def k8 : Class := { plain "[I" (some 0) with kind := .array 7 .int, interfaces := #[3, 4], accessFlags := 1041 }

def heap : Heap := #[]
def classes : Array Class := #[k0, k1, k2, k3, k4, k5, k6, k7, k8]
def interned : List (Array UInt16 × Addr) := []
def slotsUsed : Nat := 0
def theMethod : MethodId := ⟨1, 1⟩
def args0 : Array Value := #[.int 70, .int 300, .int 7]
def aboutOver (below : List Frame) : State where
  vm := { classes := classes, interned := interned.toArray }
  heap := heap
  slotsUsed := slotsUsed
  threads := #[{ frames := .invoking theMethod args0 :: below }]
def below0 : List Frame := [.native { method := ⟨0, 0⟩, args := #[] }]
def about1 : State := aboutOver below0
def p0 : Program := .bare "" "" ""
def e0 : Env := launch0.env 0 0 0
theorem w_frames : about1.frames = Frame.invoking theMethod args0 :: below0 := rfl
set_option maxRecDepth 65536 in
theorem w_args : argsFit about1.vm theMethod args0 = true := by decide +kernel
set_option maxRecDepth 65536 in
theorem w_heap : heapFits about1 = true := by decide +kernel
set_option maxRecDepth 65536 in
theorem w_runnable : about1.curStatus? = some .runnable := by decide +kernel
set_option maxRecDepth 65536 in
theorem w_alone : about1.alone = true := by decide +kernel
set_option maxRecDepth 65536 in
theorem w_named : about1.methodNamed? x = some theMethod := by decide +kernel
set_option maxRecDepth 65536 in
theorem w_hears : about1.hears theMethod below0 = true := by decide +kernel
set_option maxRecDepth 65536 in
theorem w_ripe : about1.ripe theMethod args0 below0 = true := by decide +kernel
theorem w_running : about1.status = .running := rfl
set_option maxRecDepth 65536 in
theorem w_room : about1.hasRoom e0.platform room_1 = true :=
  launch0.hasRoom_least _ room_1 (by decide +kernel) (by decide +kernel) (by decide +kernel) (by decide +kernel) (by decide +kernel) (by decide +kernel)
theorem allAtoms_all (ts : List Jvm.Cond) (a : Array Jvm.Value) (st : Jvm.State) : (allAtoms ts).before a st = ts.all (fun c => c.before a st) := by
  induction ts with
  | nil => rfl
  | cons c t ih =>
    show (Jvm.Cond.and c (allAtoms t)).before a st = _
    rw [Jvm.Cond.before_and, ih, List.all_cons]
def words1 : List Jvm.Cond := Jvm.Cond.code x code maxLocals ret :: tables_1
/-- a 'code' word, met by the world's own term for the bytes: nothing is compared byte by byte -/
theorem code_word {y : MethodName} {bytes : ByteArray} {mx : Nat} {rt : Option FieldType} {a : Array Value} {s : State} {m : MethodId} {meth : Method} {c : Code} (h1 : s.methodNamed? y = some m) (h2 : s.vm.method? m = some meth) (h3 : meth.code = some c) (h4 : c.code = bytes)
    (h5 : (c.maxLocals == mx && c.exceptionTable.isEmpty && decide (c.maxStack ≤ mostOperands) && decide (meth.sig.returnType = rt) && !meth.locks && decide (parseMethodDescriptor y.desc = some meth.sig)) = true) : (Jvm.Cond.code y bytes mx rt).before a s = true := by
  simp only [Bool.and_eq_true, beq_iff_eq, Bool.not_eq_true', decide_eq_true_eq] at h5
  obtain ⟨⟨⟨⟨⟨g1, g2⟩, g3⟩, g4⟩, g5⟩, g6⟩ := h5
  simp [Cond.before, Cond.holds, Cond.value, h1, h2, h3, h4, g1, g2, g3, g4, g5, g6]
def isCode : Jvm.Cond → Bool
  | .code _ _ _ _ => true
  | _ => false
theorem all_split {L : List Jvm.Cond} {P : Jvm.Cond → Bool} (h1 : L.all (fun c => isCode c || P c) = true) (h2 : ∀ c ∈ L.filter isCode, P c = true) : L.all P = true := by
  refine List.all_eq_true.mpr fun c hc => ?_
  have h := List.all_eq_true.mp h1 c hc
  rcases Bool.eq_false_or_eq_true (isCode c) with hi | hi
  · exact h2 c (List.mem_filter.mpr ⟨hc, hi⟩)
  · simpa [hi] using h
set_option maxRecDepth 65536 in
theorem w_c0 : (Jvm.Cond.code x code maxLocals ret).before args0 about1 = true := code_word (m := ⟨1, 1⟩) (meth := k1m1) (c := k1c1) (by decide +kernel) rfl rfl rfl (by decide +kernel)
set_option maxRecDepth 65536 in
theorem w_c1 : (Jvm.Cond.code ({ cls := "com/example/hornbeam/hornbeam/rdf/NameCharacters", name := "isPnCharsBase", desc := "(I)Z" } : Jvm.MethodName) prog_63_method_2_code (1 : Nat) (Option.some Jvm.ClassFile.FieldType.boolean)).before args0 about1 = true := code_word (m := ⟨2, 1⟩) (meth := k2m1) (c := k2c1) (by decide +kernel) rfl rfl rfl (by decide +kernel)
set_option maxRecDepth 65536 in
theorem w_c2 : (Jvm.Cond.code ({ cls := "com/example/hornbeam/hornbeam/rdf/NameCharactersIsPnCharsBasePinLaw", name := "ref", desc := "(I)Z" } : Jvm.MethodName) method_3_code (1 : Nat) (Option.some Jvm.ClassFile.FieldType.boolean)).before args0 about1 = true := code_word (m := ⟨1, 2⟩) (meth := k1m2) (c := k1c2) (by decide +kernel) rfl rfl rfl (by decide +kernel)
def codes1 : List Jvm.Cond := [Jvm.Cond.code x code maxLocals ret, Jvm.Cond.code ({ cls := "com/example/hornbeam/hornbeam/rdf/NameCharacters", name := "isPnCharsBase", desc := "(I)Z" } : Jvm.MethodName) prog_63_method_2_code (1 : Nat) (Option.some Jvm.ClassFile.FieldType.boolean), Jvm.Cond.code ({ cls := "com/example/hornbeam/hornbeam/rdf/NameCharactersIsPnCharsBasePinLaw", name := "ref", desc := "(I)Z" } : Jvm.MethodName) method_3_code (1 : Nat) (Option.some Jvm.ClassFile.FieldType.boolean)]
set_option maxRecDepth 65536 in
theorem codes_eq : words1.filter isCode = codes1 := rfl
theorem w_codes : ∀ c ∈ words1.filter isCode, c.before args0 about1 = true := by
  rw [codes_eq]
  intro c hc
  simp only [codes1, List.mem_cons, List.not_mem_nil, or_false] at hc
  rcases hc with rfl | rfl | rfl
  · exact w_c0
  · exact w_c1
  · exact w_c2
set_option maxRecDepth 65536 in
theorem w_t1 : words1.all (fun c => isCode c || c.before args0 about1) = true := by decide +kernel
theorem w_tables : (allAtoms (Jvm.Cond.code x code maxLocals ret :: tables_1)).before args0 about1 = true := by
  rw [allAtoms_all]
  show words1.all (fun c => c.before args0 about1) = true
  refine all_split ?_ w_codes
  rw [w_t1]
set_option maxRecDepth 65536 in
theorem w_case : (Jvm.Cond.and given_1 narrow_1).before args0 about1 = true := by decide +kernel
theorem w_applies : (headSpec (Jvm.Cond.code x code maxLocals ret :: tables_1) room_1).applies x e0.platform about1 = true :=
  (Spec.applies_iff w_frames).mpr ⟨w_running, w_runnable, w_alone, w_named, w_hears, w_ripe, w_room, w_tables⟩
theorem atStart : AtStart classFile x code maxLocals ret World_1 tables_1 room_1 Calls_1 rest_1 Pre_1 launch0 p0 e0 about1 theMethod args0 below0 :=
  ⟨lists_1, trivial, launch0.admits_env _ _ _, launch0.least_env, fairChoices_fair.cas, fairChoices_fair.clock, w_frames, w_args, w_heap, w_applies, trivial, trivial, w_case⟩
end start1
theorem witness_1 : WitnessClaimed_1 := ⟨start1.p0, start1.e0, start1.about1, start1.theMethod, start1.args0, start1.below0, start1.atStart⟩
end Jvm.Pilot.@@N@@
