import JvmDerived
import JvmDerived.Pilot.@@N@@Statement
import JvmDerived.Pilot.@@N@@Code
set_option linter.unusedVariables false
set_option linter.unusedSimpArgs false
namespace Jvm.Pilot.@@N@@
open Jvm Jvm.ClassFile Sem Op Lib Jvm.Free Jvm.Stand Jvm.LawKit Jvm.RoadKit Bundle Jvm.Pilot.@@N@@.Jvm.D
section OwnKit
variable {p : Program} {l : Launch} {e : Env} {R : Room} {s : State} {m : MethodId} {args : Array Value} {below : List Frame} {meth : Method} {c : Code} {T : State} {locs : List Loc} {cells slots : Nat} {Z : State} {a0 : Array Value} {h : Heap}
/-- from the state U on the run comes to an end of which Q holds -/
def own_Go (p : Program) (e : Env) (below : List Frame) (Q : Outcome → State → Prop) (U : State) : Prop :=
  ∃ u o, Steps p.tables e below U u ∧ u.status = .running ∧ Ended u below o ∧ Q o u
theorem own_st {Q : Outcome → State → Prop} {U V : State} (k : ∀ t, Steps p.tables e below V t → Steps p.tables e below U t) (q : own_Go p e below Q V) : own_Go p e below Q U := by
  obtain ⟨u, o, h1, h2⟩ := q
  exact ⟨u, o, k _ h1, h2⟩
theorem own_tr {Q : Outcome → State → Prop} {U V : State} (k : Steps p.tables e below U V) (q : own_Go p e below Q V) : own_Go p e below Q U := by
  obtain ⟨u, o, h1, h2⟩ := q
  exact ⟨u, o, k.trans h1, h2⟩
/-- what a body leaves, said of its end -/
abbrev own_Post (s : State) (Qc : Option Value → Heap → List Loc → Prop) (k n : Nat) : Outcome → State → Prop := fun o u => ∃ v L, o = .returned v ∧ Qc v u.heap L ∧ FrameEnd s o u L k n
theorem own_body {y : MethodName} {bytes : ByteArray} {maxL : Nat} {ret : Option FieldType} {ws : List Jvm.Cond} {rm : Room} {as' : Array Value} {h0 : Heap} {Qc : Option Value → Heap → List Loc → Prop} {k n : Nat} (hpl : plainFor y = true)
    (body : ∀ (p : Program) (e : Env) (s : State) (m : MethodId) (below : List Frame) (meth : Method) (c : Code) (s₁ : State), Stand p l e rm s m as' below meth c s₁ [] 0 0 → p.tables.exec = Jvm.exec → Z.Warmed39 s.vm → c.code = bytes → c.maxLocals = maxL → s.vm.findClass y.cls = some m.cls →
      meth.sig.returnType = ret → meth.locks = false → meth.name = y.name → s₁.heap = h0 → own_Go p e below (own_Post s Qc k n) (s₁.setTop (entryFrame m as' maxL))) :
    MetFree l y (head1 (Jvm.Cond.code y bytes maxL ret :: ws) rm) (fun a U => a = as' ∧ Z.Warmed39 U.vm ∧ U.heap = h0) (fun _ _ _ _ _ => True) (fun _ U o U' => own_Post U Qc k n o U') := by
  refine MetFree.of_bodySF hpl hisR ?_
  intro p e s m args below meth c s₁ Bd hml0 hP hK
  obtain ⟨rfl, hZ, hh⟩ := hP
  exact body p e s m below meth c s₁ (Stand.of_body Bd) Bd.exec hZ Bd.bytes hml0 (findClass_of_methodNamed Bd.named) Bd.returns Bd.notSynchronized (name_of_methodNamed Bd.named Bd.method).1 (by rw [← hh, Bd.state]; rfl)
theorem own_end {Qc : Option Value → Heap → List Loc → Prop} {k n : Nat} {v : Option Value} (X : Stand p l e R s m args below meth c T locs cells slots) (hlk : meth.locks = false) (hv : meth.sig.returnType = none → v = none) {g : JFrame}
    (hst : ∀ fs, (∀ (f : JFrame) (acts : List Action), f.method = m → f.locked = none → f.entered = [] → (doReturn e (T.setTop f) acts v).1 = T.setFrames fs) → Steps p.tables e below (T.setTop g) (T.setFrames fs))
    (hQ : Qc v T.heap locs) (hk : cells ≤ k) (hn : slots ≤ n) : own_Go p e below (own_Post s Qc k n) (T.setTop g) := by
  obtain ⟨fs, hr, hrun, hended, hW, hsame⟩ := X.leave (v := v) hv hlk
  exact ⟨_, _, hst fs hr, hrun, hended, _, _, rfl, hQ, ⟨_, rfl⟩, hW, hsame.mono hk hn⟩
theorem own_retI {Qc : Option Value → Heap → List Loc → Prop} {k n : Nat} (X : Stand p l e R s m args below meth c T locs cells slots) (hx : p.tables.exec = Jvm.exec) (hlk : meth.locks = false) (hret : meth.sig.returnType = some .int) {pc : Nat} {Ls : Array Slot} {z : Int32} {rest : List Value}
    (hd : decode c.code pc = .ok (.ireturn, 1)) (hQ : Qc (some (.int z)) T.heap locs) (hk : cells ≤ k) (hn : slots ≤ n) : own_Go p e below (own_Post s Qc k n) (T.setTop (mkF m pc Ls (.int z :: rest))) :=
  own_end X hlk (fun q => by rw [hret] at q; cases q) (fun fs hr => retOut X hx hret (w := .int z) (t := .int) rfl (Or.inl ⟨rfl, Or.inl rfl, z, rfl⟩) hd hr) hQ hk hn
theorem own_retZ {Qc : Option Value → Heap → List Loc → Prop} {k n : Nat} (X : Stand p l e R s m args below meth c T locs cells slots) (hx : p.tables.exec = Jvm.exec) (hlk : meth.locks = false) (hret : meth.sig.returnType = some .boolean) {pc : Nat} {Ls : Array Slot} {z : Int32} {rest : List Value}
    (hz : narrow .boolean (.int z) = .int z) (hd : decode c.code pc = .ok (.ireturn, 1)) (hQ : Qc (some (.int z)) T.heap locs) (hk : cells ≤ k) (hn : slots ≤ n) : own_Go p e below (own_Post s Qc k n) (T.setTop (mkF m pc Ls (.int z :: rest))) :=
  own_end X hlk (fun q => by rw [hret] at q; cases q) (fun fs hr => retOut X hx hret (w := .int z) (t := .boolean) hz (Or.inl ⟨rfl, Or.inr (Or.inl rfl), z, rfl⟩) hd hr) hQ hk hn
theorem own_retJ {Qc : Option Value → Heap → List Loc → Prop} {k n : Nat} (X : Stand p l e R s m args below meth c T locs cells slots) (hx : p.tables.exec = Jvm.exec) (hlk : meth.locks = false) (hret : meth.sig.returnType = some .long) {pc : Nat} {Ls : Array Slot} {z : Int64} {rest : List Value}
    (hd : decode c.code pc = .ok (.lreturn, 1)) (hQ : Qc (some (.long z)) T.heap locs) (hk : cells ≤ k) (hn : slots ≤ n) : own_Go p e below (own_Post s Qc k n) (T.setTop (mkF m pc Ls (.long z :: rest))) :=
  own_end X hlk (fun q => by rw [hret] at q; cases q) (fun fs hr => retOut X hx hret (w := .long z) (t := .long) rfl (Or.inr (Or.inl ⟨rfl, rfl, z, rfl⟩)) hd hr) hQ hk hn
theorem own_retA {Qc : Option Value → Heap → List Loc → Prop} {k n : Nat} (X : Stand p l e R s m args below meth c T locs cells slots) (hx : p.tables.exec = Jvm.exec) (hlk : meth.locks = false) {t : FieldType} (hret : meth.sig.returnType = some t) (ht : t.isReference = true) {pc : Nat} {Ls : Array Slot} {w : Value} (hw : w.isRef = true)
    (hd : decode c.code pc = .ok (.areturn, 1)) (hQ : Qc (some w) T.heap locs) (hk : cells ≤ k) (hn : slots ≤ n) : own_Go p e below (own_Post s Qc k n) (T.setTop (mkF m pc Ls [w])) :=
  own_end X hlk (fun q => by rw [hret] at q; cases q) (fun fs hr => X.areturnOut hx hw hret ht hd hr) hQ hk hn
theorem own_retV {Qc : Option Value → Heap → List Loc → Prop} {k n : Nat} (X : Stand p l e R s m args below meth c T locs cells slots) (hx : p.tables.exec = Jvm.exec) (hlk : meth.locks = false) (hret : meth.sig.returnType = none) {pc : Nat} {Ls : Array Slot}
    (hd : decode c.code pc = .ok (.return_, 1)) (hQ : Qc none T.heap locs) (hk : cells ≤ k) (hn : slots ≤ n) : own_Go p e below (own_Post s Qc k n) (T.setTop (mkF m pc Ls [])) :=
  own_end X hlk (fun _ => rfl) (fun fs hr => X.returnOut hx hret hd hr) hQ hk hn
/-- a callee's contract, as own_body proves it and the three calls below spend it -/
abbrev own_Met (l : Launch) (Z : State) (y : MethodName) (bytes : ByteArray) (maxL : Nat) (ret : Option FieldType) (rm : Room) (as' : Array Value) (h0 : Heap) (Qc : Option Value → Heap → List Loc → Prop) : Prop :=
  MetFree l y (head1 [Jvm.Cond.code y bytes maxL ret] rm) (fun a U => a = as' ∧ Z.Warmed39 U.vm ∧ U.heap = h0) (fun _ _ _ _ _ => True) (fun _ U o U' => own_Post U Qc rm.cells rm.slots o U')
theorem own_callS (X : Stand p l e R s m args below meth c T locs cells slots) (hx : p.tables.exec = Jvm.exec) (hZ : Z.Warmed39 s.vm) {own : String} {index : Nat} {y : MethodName} {bytes : ByteArray} {maxL : Nat} {ret : Option FieldType} {rm : Room} {Qc : Option Value → Heap → List Loc → Prop} {argsL rest : List Value} {ps : List FieldType} {W : Nat} {g : JFrame}
    (hM : own_Met l Z y bytes maxL ret rm argsL.toArray h Qc) (hown : s.vm.findClass own = some m.cls) (w1 : (Jvm.Cond.methodLink own index y).before a0 Z = true) (w2 : (Jvm.Cond.static y).before a0 Z = true) (w3 : (Jvm.Cond.initialized y.cls).before a0 Z = true) (w4 : (Jvm.Cond.code y bytes maxL ret).before a0 Z = true)
    (hy : y.cls ≠ "java/lang/invoke/MethodHandle" ∧ y.cls ≠ "java/lang/invoke/VarHandle") (eT : T.heap = h) (hg : g.method = m) (hsize : g.locals.size = c.maxLocals) (hdesc : parseMethodDescriptor y.desc = some ⟨ps, ret⟩) (hlen : argsL.length = ps.length) (hstack : g.stack = argsL.reverse ++ rest)
    (hW : 2 * g.monitorRoom + (rest.map fun v => v.category).sum ≤ W) (hdg : decode c.code g.pc = .ok (.invokestatic index, 3)) (hf : rm.frames + 1 ≤ R.frames) (hl : W + (maxL + 11) + rm.locals ≤ R.locals) (hc : cells + rm.cells ≤ R.cells) (hs : slots + rm.slots ≤ R.slots) :
    ∃ v T' L, Stand p l e R s m args below meth c T' (locs ++ L) (cells + rm.cells) (slots + rm.slots) ∧ Qc v T'.heap L ∧ ∀ target, Steps p.tables e below (T'.setTop { g with pc := g.pc + 3, stack := v.toList ++ rest }) target → Steps p.tables e below (T.setTop g) target := by
  obtain ⟨v, _, ⟨T1, L1, k1, n1⟩, -, X1, ⟨L, hQ, q1, q2, q3⟩, st⟩ := Jvm.LawKit.callS X hx (y := y) hown (mvT hZ w1) (mvT hZ w2) (mvT hZ w3) (mvT hZ w4) hy (backOf (W := W) hM hZ w4 w3 hf hl) (g := g) hg hsize (lenOf hdesc hlen) hstack hW hdg (fun _ _ => ⟨rfl, eT, hc, hs⟩)
  dsimp only [Pt.U, Pt.locs, Pt.cells, Pt.slots] at X1 q1 q2 q3 st hQ
  subst q1 q2 q3
  exact ⟨v, T1, L, X1, hQ, st⟩
theorem own_callI (X : Stand p l e R s m args below meth c T locs cells slots) (hx : p.tables.exec = Jvm.exec) (hZ : Z.Warmed39 s.vm) {own : String} {index : Nat} {y : MethodName} {bytes : ByteArray} {maxL : Nat} {rm : Room} {Qc : Option Value → Heap → List Loc → Prop} {a : Addr} {argsL rest : List Value} {ps : List FieldType} {W : Nat} {g : JFrame}
    (hM : own_Met l Z y bytes maxL none rm (.ref a :: argsL).toArray h Qc) (hn : y.name = "<init>") (hown : s.vm.findClass own = some m.cls) (w1 : (Jvm.Cond.methodLink own index y).before a0 Z = true) (w2 : (Jvm.Cond.instanceMethod y).before a0 Z = true) (w3 : (Jvm.Cond.initialized y.cls).before a0 Z = true) (w4 : (Jvm.Cond.code y bytes maxL none).before a0 Z = true)
    (hy : y.cls ≠ "java/lang/invoke/MethodHandle" ∧ y.cls ≠ "java/lang/invoke/VarHandle") (eT : T.heap = h) (hg : g.method = m) (hsize : g.locals.size = c.maxLocals) (hdesc : parseMethodDescriptor y.desc = some ⟨ps, none⟩) (hlen : argsL.length = ps.length) (hstack : g.stack = argsL.reverse ++ .ref a :: rest)
    (hW : 2 * g.monitorRoom + (rest.map fun v => v.category).sum ≤ W) (hdg : decode c.code g.pc = .ok (.invokespecial index, 3)) (hf : rm.frames + 1 ≤ R.frames) (hl : W + (maxL + 11) + rm.locals ≤ R.locals) (hc : cells + rm.cells ≤ R.cells) (hs : slots + rm.slots ≤ R.slots) :
    ∃ v T' L, Stand p l e R s m args below meth c T' (locs ++ L) (cells + rm.cells) (slots + rm.slots) ∧ Qc v T'.heap L ∧ ∀ target, Steps p.tables e below (T'.setTop { g with pc := g.pc + 3, stack := v.toList ++ rest }) target → Steps p.tables e below (T.setTop g) target := by
  obtain ⟨v, _, ⟨T1, L1, k1, n1⟩, -, X1, ⟨L, hQ, q1, q2, q3⟩, st⟩ := X.specialBack hx (y := y) hn hown (mvT hZ w1) (mvT hZ w2) (mvT hZ w4) hy (backOf (W := W) hM hZ w4 w3 hf hl) (g := g) hg hsize (Steps.refl _) (a := a) (lenOf hdesc hlen) hstack hW hdg (fun _ _ => ⟨rfl, eT, hc, hs⟩)
  dsimp only [Pt.U, Pt.locs, Pt.cells, Pt.slots] at X1 q1 q2 q3 st hQ
  subst q1 q2 q3
  exact ⟨v, T1, L, X1, hQ, fun _ q => st.trans q⟩
theorem own_callV (X : Stand p l e R s m args below meth c T locs cells slots) (hx : p.tables.exec = Jvm.exec) (hZ : Z.Warmed39 s.vm) {own : String} {index : Nat} {y : MethodName} {bytes : ByteArray} {maxL : Nat} {ret : Option FieldType} {rm : Room} {Qc : Option Value → Heap → List Loc → Prop} {a : Addr} {argsL rest : List Value} {ps : List FieldType} {W : Nat} {g : JFrame}
    (hM : own_Met l Z y bytes maxL ret rm (.ref a :: argsL).toArray h Qc) (E : Exa Z h a y.cls) (hown : s.vm.findClass own = some m.cls) (w1 : (Jvm.Cond.methodLink own index y).before a0 Z = true) (w2 : (Jvm.Cond.declares y).before a0 Z = true) (w3 : (Jvm.Cond.selects y.cls y y).before a0 Z = true) (w4 : (Jvm.Cond.instanceMethod y).before a0 Z = true) (w5 : (Jvm.Cond.initialized y.cls).before a0 Z = true) (w6 : (Jvm.Cond.code y bytes maxL ret).before a0 Z = true)
    (hy : y.cls ≠ "java/lang/invoke/MethodHandle" ∧ y.cls ≠ "java/lang/invoke/VarHandle") (eT : T.heap = h) (hg : g.method = m) (hsize : g.locals.size = c.maxLocals) (hdesc : parseMethodDescriptor y.desc = some ⟨ps, ret⟩) (hlen : argsL.length = ps.length) (hstack : g.stack = argsL.reverse ++ .ref a :: rest)
    (hW : 2 * g.monitorRoom + (rest.map fun v => v.category).sum ≤ W) (hdg : decode c.code g.pc = .ok (.invokevirtual index, 3)) (hf : rm.frames + 1 ≤ R.frames) (hl : W + (maxL + 11) + rm.locals ≤ R.locals) (hc : cells + rm.cells ≤ R.cells) (hs : slots + rm.slots ≤ R.slots) :
    ∃ v T' L, Stand p l e R s m args below meth c T' (locs ++ L) (cells + rm.cells) (slots + rm.slots) ∧ Qc v T'.heap L ∧ ∀ target, Steps p.tables e below (T'.setTop { g with pc := g.pc + 3, stack := v.toList ++ rest }) target → Steps p.tables e below (T.setTop g) target := by
  obtain ⟨cq, kq, qa, qb, qc⟩ := isOf hZ eT E
  obtain ⟨v, _, ⟨T1, L1, k1, n1⟩, -, X1, ⟨L, hQ, q1, q2, q3⟩, st⟩ := X.virtualBack hx (y := y) (z := y) hown (mvT hZ w1) (mvT hZ w2) (notFace_of_selects (args := #[]) (mvT hZ w3)) (mvT hZ w3) (mvT hZ w4) hy (backOf (W := W) hM hZ w6 w5 hf hl) qa qc (g := g) hg hsize (Steps.refl _) (lenOf hdesc hlen) hstack hW hdg (fun _ _ => ⟨rfl, eT, hc, hs⟩)
  dsimp only [Pt.U, Pt.locs, Pt.cells, Pt.slots] at X1 q1 q2 q3 st hQ
  subst q1 q2 q3
  exact ⟨v, T1, L, X1, hQ, fun _ q => st.trans q⟩
/-- what a body that writes nothing leaves -/
abbrev own_P (v : Option Value) (h : Heap) : Option Value → Heap → List Loc → Prop := fun w h' L => w = v ∧ L = [] ∧ h' = h
theorem own_flat (X : Stand p l e R s m args below meth c T (locs ++ []) (cells + 0) (slots + 0)) : Stand p l e R s m args below meth c T locs cells slots := by
  rw [List.append_nil] at X
  exact X
def own_c32 : ClassFile.Cond → Int32 → Int32 → Bool
  | .lt, x, y => decide (x < y)
  | .ge, x, y => !decide (x < y)
  | .gt, x, y => decide (y < x)
  | .le, x, y => !decide (y < x)
  | .eq, x, y => decide (x = y)
  | .ne, x, y => !decide (x = y)
def own_c64 : ClassFile.Cond → Int64 → Int64 → Bool
  | .lt, x, y => decide (x < y)
  | .ge, x, y => !decide (x < y)
  | .gt, x, y => decide (y < x)
  | .le, x, y => !decide (y < x)
  | .eq, x, y => decide (x = y)
  | .ne, x, y => !decide (x = y)
theorem own_yes {P : Prop} [Decidable P] (q : P) : decide P = true := decide_eq_true q
theorem own_no {P : Prop} [Decidable P] (q : ¬ P) : decide P = false := decide_eq_false q
theorem own_nyes {P : Prop} [Decidable P] (q : P) : (!decide P) = false := by rw [decide_eq_true q]; rfl
theorem own_nno {P : Prop} [Decidable P] (q : ¬ P) : (!decide P) = true := by rw [decide_eq_false q]; rfl
theorem own_i2 (cd : ClassFile.Cond) (x y : Int32) : if_icmp.holds cd x y = own_c32 cd x y := by
  cases cd
  case lt => by_cases q : x < y; · exact (tlt q).1.trans (own_yes q).symm
             · exact (flt q).1.trans (own_no q).symm
  case ge => by_cases q : x < y; · exact (tlt q).2.1.trans (own_nyes q).symm
             · exact (flt q).2.1.trans (own_nno q).symm
  case gt => by_cases q : y < x; · exact (tlt q).2.2.1.trans (own_yes q).symm
             · exact (flt q).2.2.1.trans (own_no q).symm
  case le => by_cases q : y < x; · exact (tlt q).2.2.2.trans (own_nyes q).symm
             · exact (flt q).2.2.2.trans (own_nno q).symm
  case eq => by_cases q : x = y; · exact (teq q).1.trans (own_yes q).symm
             · exact (feq q).1.trans (own_no q).symm
  case ne => by_cases q : x = y; · exact (teq q).2.trans (own_nyes q).symm
             · exact (feq q).2.trans (own_nno q).symm
theorem own_i0 (cd : ClassFile.Cond) (x : Int32) : ifCond.holds cd x = own_c32 cd x 0 := (if0 cd x).trans (own_i2 cd x 0)
theorem own_l0 (cd : ClassFile.Cond) (x y : Int64) : ifCond.holds cd (lcmpW x y) = own_c64 cd x y := by
  rw [own_i0]
  have q1 := lw_lt x y
  have q2 := lw_gt x y
  have q3 := lw_eq x y
  cases cd <;> simp only [own_c32, own_c64, q1, q2, q3]
theorem own_ldI {a : Addr} {k : ClassId} {z j : Int32} {vs : List Value} {dv : Value} (F : Arv Z h a k .int z vs dv) (q : ¬ j < 0 ∧ j < z) : ∃ (cl : Cell) (v : Int32), Arr Z h a cl .int ∧ ¬ (j < 0 ∨ cl.slots.size ≤ j.toNatClampNeg) ∧ cl.slots[j.toNatClampNeg]? = some (.int v) := by
  obtain ⟨cl, A, -, S, M, H, G⟩ := F
  have hin := inb_of S q
  have hlt : j.toNatClampNeg < cl.slots.size := Nat.lt_of_not_le fun y => hin (Or.inr y)
  obtain ⟨v, hv⟩ := fit_I (G _ hlt) (Or.inl rfl)
  exact ⟨cl, v, A, hin, by rw [H _ hlt, hv]⟩
theorem own_len {a : Addr} {k : ClassId} {ty : FieldType} {z : Int32} {vs : List Value} {dv : Value} (F : Arv Z h a k ty z vs dv) : ∃ cl : Cell, Arr Z h a cl ty ∧ cl.slots.size = z.toNatClampNeg ∧ ¬ z < 0 := by
  obtain ⟨cl, A, -, S, M, -, -⟩ := F
  exact ⟨cl, A, S, M⟩
theorem own_at {a : Addr} {k : ClassId} {ty : FieldType} {z j : Int32} {vs : List Value} {dv : Value} (F : Arv Z h a k ty z vs dv) (q : ¬ j < 0 ∧ j < z) {i : Nat} (hj : j.toNatClampNeg = i) {v : Value} (hv : vs.getD i dv = v) : ∃ cl : Cell, Arr Z h a cl ty ∧ ¬ (j < 0 ∨ cl.slots.size ≤ j.toNatClampNeg) ∧ cl.slots[j.toNatClampNeg]? = some v := by
  obtain ⟨cl, A, -, S, M, H, -⟩ := F
  have hin := inb_of S q
  have hlt : j.toNatClampNeg < cl.slots.size := Nat.lt_of_not_le fun y => hin (Or.inr y)
  refine ⟨cl, A, hin, ?_⟩
  rw [H _ hlt, hj, hv]
end OwnKit

theorem pd_0 : parseMethodDescriptor "(IZ)I" = some ⟨[.int, .boolean], some .int⟩ := by decide +kernel
theorem pd_1 : parseMethodDescriptor "(I)I" = some ⟨[.int], some .int⟩ := by decide +kernel
def own_role_0 (p0 : Int32) (p1 : Int32) : Int32 := (if p1 = (0 : Int32) then (((2 : Int32) * p0) + (0 : Int32)) else (((2 : Int32) * p0) + (1 : Int32)))
theorem d1_0 : decode prog_105_method_2_code 0 = .ok (.iconst 2, 1) := by decide +kernel
theorem d1_1 : decode prog_105_method_2_code 1 = .ok (.iload_n 0, 1) := by decide +kernel
theorem d1_2 : decode prog_105_method_2_code 2 = .ok (.imul, 1) := by decide +kernel
theorem d1_3 : decode prog_105_method_2_code 3 = .ok (.iload_n 1, 1) := by decide +kernel
theorem d1_4 : decode prog_105_method_2_code 4 = .ok (.ifCond .eq 7, 3) := by decide +kernel
theorem d1_7 : decode prog_105_method_2_code 7 = .ok (.iconst 1, 1) := by decide +kernel
theorem d1_8 : decode prog_105_method_2_code 8 = .ok (.goto 4, 3) := by decide +kernel
theorem d1_11 : decode prog_105_method_2_code 11 = .ok (.iconst 0, 1) := by decide +kernel
theorem d1_12 : decode prog_105_method_2_code 12 = .ok (.iadd, 1) := by decide +kernel
theorem d1_13 : decode prog_105_method_2_code 13 = .ok (.ireturn, 1) := by decide +kernel
theorem pn_1 : plainFor (⟨"com/example/hornbeam/hornbeam/reason/RoleHierarchy", "role", "(IZ)I"⟩ : MethodName) = true := plainFor_of_name (by first | (simp [plainName, overriddenIn]; done) | decide +kernel)
theorem ef_1 (m : MethodId) (x0 : Int32) (x1 : Int32) : entryFrame m #[(.int x0), (.int x1)] 2 = mkF m 0 #[.val (.int x0), .val (.int x1)] [] := by first | (simp [entryFrame, mkF, argsToLocals, Value.category]; done) | rfl
set_option maxRecDepth 65536 in
set_option maxHeartbeats 40000000 in
theorem rm1 (l : Launch) (Z : State) (tA : Array Value) (hw : ∀ d ∈ tables_1, d.before tA Z = true) (p0 : Int32) (p1 : Int32) (h0 : Heap) :
    own_Met l Z (⟨"com/example/hornbeam/hornbeam/reason/RoleHierarchy", "role", "(IZ)I"⟩ : MethodName) prog_105_method_2_code 2 (some .int) ({ frames := 0, cells := 0, slots := 0, locals := 0 } : Room) #[(.int p0), (.int p1)] h0 (own_P (some (.int (own_role_0 p0 p1))) h0) := by
  refine own_body pn_1 ?_
  intro p e s m below meth c s₁ X0 hx hZ hby hml hown hret hlk hnm e0
  have B0 : ∀ (T0 : State), Stand p l e ({ frames := 0, cells := 0, slots := 0, locals := 0 } : Room) s m #[(.int p0), (.int p1)] below meth c T0 [] 0 0 → T0.heap = h0 → own_role_0 p0 p1 = own_role_0 p0 p1 → own_Go p e below (own_Post s (own_P (some (.int (own_role_0 p0 p1))) h0) ({ frames := 0, cells := 0, slots := 0, locals := 0 } : Room).cells ({ frames := 0, cells := 0, slots := 0, locals := 0 } : Room).slots) (T0.setTop (mkF m 0 #[.val (.int p0), .val (.int p1)] [])) := by
    intro T0 X0 e0 hbk
    show own_Go p e below _ (T0.setTop (mkF m 0 #[.val (.int p0), .val (.int p1)] []))
    refine own_st (fun _ k => XS.iconst X0.here hx rfl (hb hby d1_0) k) ?_
    show own_Go p e below _ (T0.setTop (mkF m 1 #[.val (.int p0), .val (.int p1)] [(.int (2 : Int32))]))
    refine own_st (fun _ k => XS.iloadN X0.here hx rfl (hb hby d1_1) rfl k) ?_
    show own_Go p e below _ (T0.setTop (mkF m 2 #[.val (.int p0), .val (.int p1)] [(.int p0), (.int (2 : Int32))]))
    refine own_st (fun _ k => XS.imul X0.here hx rfl (hb hby d1_2) rfl k) ?_
    show own_Go p e below _ (T0.setTop (mkF m 3 #[.val (.int p0), .val (.int p1)] [(.int ((2 : Int32) * p0))]))
    refine own_st (fun _ k => XS.iloadN X0.here hx rfl (hb hby d1_3) rfl k) ?_
    show own_Go p e below _ (T0.setTop (mkF m 4 #[.val (.int p0), .val (.int p1)] [(.int p1), (.int ((2 : Int32) * p0))]))
    by_cases hc4 : p1 = (0 : Int32)
    · refine own_st (fun _ k => XS.ifYes X0.here hx rfl (pc0 := 4) (pc' := 11) rfl (hb hby d1_4) rfl ((own_i0 _ _).trans (own_yes hc4)) (by decide) (by decide) k) ?_
      show own_Go p e below _ (T0.setTop (mkF m 11 #[.val (.int p0), .val (.int p1)] [(.int ((2 : Int32) * p0))]))
      refine own_st (fun _ k => XS.iconst X0.here hx rfl (hb hby d1_11) k) ?_
      show own_Go p e below _ (T0.setTop (mkF m 12 #[.val (.int p0), .val (.int p1)] [(.int (0 : Int32)), (.int ((2 : Int32) * p0))]))
      refine own_st (fun _ k => XS.iadd X0.here hx rfl (hb hby d1_12) rfl k) ?_
      show own_Go p e below _ (T0.setTop (mkF m 13 #[.val (.int p0), .val (.int p1)] [(.int (((2 : Int32) * p0) + (0 : Int32)))]))
      exact own_retI X0 hx hlk hret (hb hby d1_13) ⟨congrArg (fun z => some (Value.int z)) ((show own_role_0 p0 p1 = (((2 : Int32) * p0) + (0 : Int32)) from (if_pos hc4)).symm.trans hbk), rfl, e0⟩ (by decide) (by decide)
    · refine own_st (fun _ k => XS.ifNo X0.here hx rfl (hb hby d1_4) rfl ((own_i0 _ _).trans (own_no hc4)) k) ?_
      show own_Go p e below _ (T0.setTop (mkF m 7 #[.val (.int p0), .val (.int p1)] [(.int ((2 : Int32) * p0))]))
      refine own_st (fun _ k => XS.iconst X0.here hx rfl (hb hby d1_7) k) ?_
      show own_Go p e below _ (T0.setTop (mkF m 8 #[.val (.int p0), .val (.int p1)] [(.int (1 : Int32)), (.int ((2 : Int32) * p0))]))
      refine own_st (fun _ k => XS.goto X0.here hx rfl (pc0 := 8) (pc' := 12) rfl (hb hby d1_8) (by decide) (by decide) k) ?_
      show own_Go p e below _ (T0.setTop (mkF m 12 #[.val (.int p0), .val (.int p1)] [(.int (1 : Int32)), (.int ((2 : Int32) * p0))]))
      refine own_st (fun _ k => XS.iadd X0.here hx rfl (hb hby d1_12) rfl k) ?_
      show own_Go p e below _ (T0.setTop (mkF m 13 #[.val (.int p0), .val (.int p1)] [(.int (((2 : Int32) * p0) + (1 : Int32)))]))
      exact own_retI X0 hx hlk hret (hb hby d1_13) ⟨congrArg (fun z => some (Value.int z)) ((show own_role_0 p0 p1 = (((2 : Int32) * p0) + (1 : Int32)) from (if_neg hc4)).symm.trans hbk), rfl, e0⟩ (by decide) (by decide)
  rw [ef_1]
  exact B0 _ X0 e0 rfl
def own_inv_0 (p0 : Int32) : Int32 := (p0 ^^^ (1 : Int32))
theorem d2_0 : decode prog_105_method_3_code 0 = .ok (.iload_n 0, 1) := by decide +kernel
theorem d2_1 : decode prog_105_method_3_code 1 = .ok (.iconst 1, 1) := by decide +kernel
theorem d2_2 : decode prog_105_method_3_code 2 = .ok (.ixor, 1) := by decide +kernel
theorem d2_3 : decode prog_105_method_3_code 3 = .ok (.ireturn, 1) := by decide +kernel
theorem pn_2 : plainFor (⟨"com/example/hornbeam/hornbeam/reason/RoleHierarchy", "inverse", "(I)I"⟩ : MethodName) = true := plainFor_of_name (by first | (simp [plainName, overriddenIn]; done) | decide +kernel)
theorem ef_2 (m : MethodId) (x0 : Int32) : entryFrame m #[(.int x0)] 1 = mkF m 0 #[.val (.int x0)] [] := by first | (simp [entryFrame, mkF, argsToLocals, Value.category]; done) | rfl
set_option maxRecDepth 65536 in
set_option maxHeartbeats 40000000 in
theorem rm2 (l : Launch) (Z : State) (tA : Array Value) (hw : ∀ d ∈ tables_1, d.before tA Z = true) (p0 : Int32) (h0 : Heap) :
    own_Met l Z (⟨"com/example/hornbeam/hornbeam/reason/RoleHierarchy", "inverse", "(I)I"⟩ : MethodName) prog_105_method_3_code 1 (some .int) ({ frames := 0, cells := 0, slots := 0, locals := 0 } : Room) #[(.int p0)] h0 (own_P (some (.int (own_inv_0 p0))) h0) := by
  refine own_body pn_2 ?_
  intro p e s m below meth c s₁ X0 hx hZ hby hml hown hret hlk hnm e0
  have B0 : ∀ (T0 : State), Stand p l e ({ frames := 0, cells := 0, slots := 0, locals := 0 } : Room) s m #[(.int p0)] below meth c T0 [] 0 0 → T0.heap = h0 → own_inv_0 p0 = own_inv_0 p0 → own_Go p e below (own_Post s (own_P (some (.int (own_inv_0 p0))) h0) ({ frames := 0, cells := 0, slots := 0, locals := 0 } : Room).cells ({ frames := 0, cells := 0, slots := 0, locals := 0 } : Room).slots) (T0.setTop (mkF m 0 #[.val (.int p0)] [])) := by
    intro T0 X0 e0 hbk
    show own_Go p e below _ (T0.setTop (mkF m 0 #[.val (.int p0)] []))
    refine own_st (fun _ k => XS.iloadN X0.here hx rfl (hb hby d2_0) rfl k) ?_
    show own_Go p e below _ (T0.setTop (mkF m 1 #[.val (.int p0)] [(.int p0)]))
    refine own_st (fun _ k => XS.iconst X0.here hx rfl (hb hby d2_1) k) ?_
    show own_Go p e below _ (T0.setTop (mkF m 2 #[.val (.int p0)] [(.int (1 : Int32)), (.int p0)]))
    refine own_st (fun _ k => XS.ixor X0.here hx rfl (hb hby d2_2) rfl k) ?_
    show own_Go p e below _ (T0.setTop (mkF m 3 #[.val (.int p0)] [(.int (p0 ^^^ (1 : Int32)))]))
    exact own_retI X0 hx hlk hret (hb hby d2_3) ⟨congrArg (fun z => some (Value.int z)) ((show own_inv_0 p0 = (p0 ^^^ (1 : Int32)) from rfl).symm.trans hbk), rfl, e0⟩ (by decide) (by decide)
  rw [ef_2]
  exact B0 _ X0 e0 rfl
theorem own_p (x : Int32) : 0 ≤ (x &&& (1073741823 : Int32)).toInt ∧ (x &&& (1073741823 : Int32)).toInt < 1073741824 := by
  have e1 := c_mask x (1073741823 : Int32) 30 (by decide) (by decide)
  rw [e1]
  omega
theorem own_r1 (p : Int32) : own_role_0 p 1 = (2 : Int32) * p + 1 := if_neg (by decide)
theorem own_r0 (p : Int32) : own_role_0 p 0 = (2 : Int32) * p + 0 := if_pos rfl
theorem own_t1 (p : Int32) (h : 0 ≤ p.toInt ∧ p.toInt < 1073741824) : (own_role_0 p 1).toInt = 2 * p.toInt + 1 := by
  rw [own_r1]
  have e1 := c_imul 2 p
  have e2 := c_iadd (2 * p) 1
  have e3 : (2 : Int32).toInt = 2 := rfl
  have e4 : (1 : Int32).toInt = 1 := rfl
  rw [e3] at e1
  rw [e4] at e2
  have r1 := rng32 (2 * p)
  have r2 := rng32 (2 * p + 1)
  omega
theorem own_t0 (p : Int32) (h : 0 ≤ p.toInt ∧ p.toInt < 1073741824) : (own_role_0 p 0).toInt = 2 * p.toInt := by
  rw [own_r0]
  have e1 := c_imul 2 p
  have e2 := c_iadd (2 * p) 0
  have e3 : (2 : Int32).toInt = 2 := rfl
  have e4 : (0 : Int32).toInt = 0 := rfl
  rw [e3] at e1
  rw [e4] at e2
  have r1 := rng32 (2 * p)
  have r2 := rng32 (2 * p + 0)
  omega
theorem own_nonneg {z : Int32} (h : 0 ≤ z.toInt) : ¬ z < (0 : Int32) := by
  rw [Int32.lt_iff_toInt_lt]
  have e : (0 : Int32).toInt = 0 := rfl
  omega
theorem own_nn1 (x : Int32) : ¬ own_role_0 (x &&& (1073741823 : Int32)) 1 < (0 : Int32) := own_nonneg (by have := own_p x; rw [own_t1 _ this]; omega)
theorem own_nn0 (x : Int32) : ¬ own_role_0 (x &&& (1073741823 : Int32)) 0 < (0 : Int32) := own_nonneg (by have := own_p x; rw [own_t0 _ this]; omega)
theorem own_b1 (x : Int32) : (own_role_0 (x &&& (1073741823 : Int32)) 1 >>> ((1 : Int32) &&& 31)) = (x &&& (1073741823 : Int32)) := by
  apply Int32.toInt_inj.mp
  rw [c_ishr _ 1 1 (by decide), own_t1 _ (own_p x)]
  omega
theorem own_b0 (x : Int32) : (own_role_0 (x &&& (1073741823 : Int32)) 0 >>> ((1 : Int32) &&& 31)) = (x &&& (1073741823 : Int32)) := by
  apply Int32.toInt_inj.mp
  rw [c_ishr _ 1 1 (by decide), own_t0 _ (own_p x)]
  omega
theorem own_l1 (x : Int32) : (own_role_0 (x &&& (1073741823 : Int32)) 1 &&& (1 : Int32)) = (1 : Int32) := by
  apply Int32.toInt_inj.mp
  rw [c_mask _ 1 1 (by decide) (by decide), own_t1 _ (own_p x)]
  have e : (1 : Int32).toInt = 1 := rfl
  omega
theorem own_l0' (x : Int32) : (own_role_0 (x &&& (1073741823 : Int32)) 0 &&& (1 : Int32)) = (0 : Int32) := by
  apply Int32.toInt_inj.mp
  rw [c_mask _ 1 1 (by decide) (by decide), own_t0 _ (own_p x)]
  have e : (0 : Int32).toInt = 0 := rfl
  omega
theorem own_xor1 (a b : Nat) (h : b / 2 = a / 2) (q : b % 2 = (a + 1) % 2) : a ^^^ 1 = b := by
  have e1 : (a ^^^ 1) / 2 = a / 2 := by rw [Nat.xor_div_two]; exact Nat.xor_zero _
  have e2 := nx2 a 1
  omega
theorem own_xorI (r z : Int32) (h1 : 0 ≤ r.toInt) (h2 : 0 ≤ z.toInt) (h : z.toInt / 2 = r.toInt / 2) (q : z.toInt % 2 = (r.toInt + 1) % 2) : own_inv_0 r = z := by
  apply Int32.toBitVec_inj.mp
  apply BitVec.eq_of_toNat_eq
  have e : own_inv_0 r = r ^^^ 1 := rfl
  have k1 : r.toInt = (r.toBitVec.toNat : Int) := by
    have l := r.toBitVec.isLt
    have d : r.toInt = r.toBitVec.toInt := rfl
    rw [d, BitVec.toInt_eq_toNat_cond] at h1 ⊢
    by_cases u : 2 * r.toBitVec.toNat < 2 ^ 32
    · rw [if_pos u]
    · rw [if_neg u] at h1; omega
  have k2 : z.toInt = (z.toBitVec.toNat : Int) := by
    have l := z.toBitVec.isLt
    have d : z.toInt = z.toBitVec.toInt := rfl
    rw [d, BitVec.toInt_eq_toNat_cond] at h2 ⊢
    by_cases u : 2 * z.toBitVec.toNat < 2 ^ 32
    · rw [if_pos u]
    · rw [if_neg u] at h2; omega
  rw [e, Int32.toBitVec_xor, BitVec.toNat_xor]
  exact own_xor1 _ _ (by omega) (by omega)
theorem own_v1 (x : Int32) : (own_inv_0 (own_role_0 (x &&& (1073741823 : Int32)) 1)) = (own_role_0 (x &&& (1073741823 : Int32)) 0) := by
  have h := own_p x
  have e1 := own_t1 _ h
  have e0 := own_t0 _ h
  exact own_xorI _ _ (by omega) (by omega) (by omega) (by omega)
theorem own_v0 (x : Int32) : (own_inv_0 (own_role_0 (x &&& (1073741823 : Int32)) 0)) = (own_role_0 (x &&& (1073741823 : Int32)) 1) := by
  have h := own_p x
  have e1 := own_t1 _ h
  have e0 := own_t0 _ h
  exact own_xorI _ _ (by omega) (by omega) (by omega) (by omega)
theorem pn_0 : plainFor (⟨"com/example/hornbeam/hornbeam/reason/RoleHierarchyRolePinLaw", "law", "(II)Z"⟩ : MethodName) = true := plainFor_of_name (by first | (simp [plainName, overriddenIn]; done) | decide +kernel)
theorem ef_0 (m : MethodId) (x0 : Int32) (x1 : Int32) : entryFrame m #[(.int x0), (.int x1)] maxLocals = mkF m 0 #[.val (.int x0), .val (.int x1), .unset, .unset, .unset, .unset, .unset, .unset, .unset, .unset] [] := by first | (simp [entryFrame, mkF, argsToLocals, Value.category, maxLocals]; done) | rfl
set_option maxRecDepth 65536 in
set_option maxHeartbeats 40000000 in
theorem rm0 (l : Launch) (Z : State) (tA : Array Value) (hw : ∀ d ∈ tables_1, d.before tA Z = true) (p0 : Int32) (p1 : Int32) (h0 : Heap) (n0 : Nat) (Z0 : n0 ≤ h0.size) :
    MetFree l x (head1 (Jvm.Cond.code x code maxLocals ret :: tables_1) room_1) (fun a U => a = #[(.int p0), (.int p1)] ∧ Z.Warmed39 U.vm ∧ U.heap = h0) (fun _ _ _ _ _ => True) (fun _ U o U' => own_Post U (fun v _ L => v = some (.int (1 : Int32)) ∧ Fr n0 L) 0 0 o U') := by
  refine own_body pn_0 ?_
  intro p e s m below meth c s₁ X0 hx hZ hby hml hown hret hlk hnm e0
  have N0 := Fr.nil n0
  rw [ef_0]
  show own_Go p e below _ (s₁.setTop (mkF m 0 #[.val (.int p0), .val (.int p1), .unset, .unset, .unset, .unset, .unset, .unset, .unset, .unset] []))
  refine own_st (fun _ k => XS.iloadN X0.here hx rfl (hb hby at_0) rfl k) ?_
  show own_Go p e below _ (s₁.setTop (mkF m 1 #[.val (.int p0), .val (.int p1), .unset, .unset, .unset, .unset, .unset, .unset, .unset, .unset] [(.int p0)]))
  refine own_st (fun _ k => X0.ldcInt hx hown (mvT hZ (hw _ (List.mem_of_getElem? (i := 0) rfl))) (g := (mkF m 1 #[.val (.int p0), .val (.int p1), .unset, .unset, .unset, .unset, .unset, .unset, .unset, .unset] [(.int p0)])) rfl (hb hby at_1) _ k) ?_
  show own_Go p e below _ (s₁.setTop (mkF m 3 #[.val (.int p0), .val (.int p1), .unset, .unset, .unset, .unset, .unset, .unset, .unset, .unset] [(.int (1073741823 : Int32)), (.int p0)]))
  refine own_st (fun _ k => XS.iand X0.here hx rfl (hb hby at_3) rfl k) ?_
  show own_Go p e below _ (s₁.setTop (mkF m 4 #[.val (.int p0), .val (.int p1), .unset, .unset, .unset, .unset, .unset, .unset, .unset, .unset] [(.int (p0 &&& (1073741823 : Int32)))]))
  refine own_st (fun _ k => XS.istoreN X0.here hx rfl (hb hby at_4) rfl (l' := #[.val (.int p0), .val (.int p1), .val (.int (p0 &&& (1073741823 : Int32))), .unset, .unset, .unset, .unset, .unset, .unset, .unset]) rfl k) ?_
  show own_Go p e below _ (s₁.setTop (mkF m 5 #[.val (.int p0), .val (.int p1), .val (.int (p0 &&& (1073741823 : Int32))), .unset, .unset, .unset, .unset, .unset, .unset, .unset] []))
  refine own_st (fun _ k => XS.iloadN X0.here hx rfl (hb hby at_5) rfl k) ?_
  show own_Go p e below _ (s₁.setTop (mkF m 6 #[.val (.int p0), .val (.int p1), .val (.int (p0 &&& (1073741823 : Int32))), .unset, .unset, .unset, .unset, .unset, .unset, .unset] [(.int p1)]))
  refine own_st (fun _ k => XS.iconst X0.here hx rfl (hb hby at_6) k) ?_
  show own_Go p e below _ (s₁.setTop (mkF m 7 #[.val (.int p0), .val (.int p1), .val (.int (p0 &&& (1073741823 : Int32))), .unset, .unset, .unset, .unset, .unset, .unset, .unset] [(.int (1 : Int32)), (.int p1)]))
  refine own_st (fun _ k => XS.iand X0.here hx rfl (hb hby at_7) rfl k) ?_
  show own_Go p e below _ (s₁.setTop (mkF m 8 #[.val (.int p0), .val (.int p1), .val (.int (p0 &&& (1073741823 : Int32))), .unset, .unset, .unset, .unset, .unset, .unset, .unset] [(.int (p1 &&& (1 : Int32)))]))
  by_cases hc8 : (p1 &&& (1 : Int32)) = (0 : Int32)
  · refine own_st (fun _ k => XS.ifYes X0.here hx rfl (pc0 := 8) (pc' := 15) rfl (hb hby at_8) rfl ((own_i0 _ _).trans (own_yes hc8)) (by decide) (by decide) k) ?_
    show own_Go p e below _ (s₁.setTop (mkF m 15 #[.val (.int p0), .val (.int p1), .val (.int (p0 &&& (1073741823 : Int32))), .unset, .unset, .unset, .unset, .unset, .unset, .unset] []))
    refine own_st (fun _ k => XS.iconst X0.here hx rfl (hb hby at_15) k) ?_
    show own_Go p e below _ (s₁.setTop (mkF m 16 #[.val (.int p0), .val (.int p1), .val (.int (p0 &&& (1073741823 : Int32))), .unset, .unset, .unset, .unset, .unset, .unset, .unset] [(.int (0 : Int32))]))
    refine own_st (fun _ k => XS.istoreN X0.here hx rfl (hb hby at_16) rfl (l' := #[.val (.int p0), .val (.int p1), .val (.int (p0 &&& (1073741823 : Int32))), .val (.int (0 : Int32)), .unset, .unset, .unset, .unset, .unset, .unset]) rfl k) ?_
    show own_Go p e below _ (s₁.setTop (mkF m 17 #[.val (.int p0), .val (.int p1), .val (.int (p0 &&& (1073741823 : Int32))), .val (.int (0 : Int32)), .unset, .unset, .unset, .unset, .unset, .unset] []))
    refine own_st (fun _ k => XS.iloadN X0.here hx rfl (hb hby at_17) rfl k) ?_
    show own_Go p e below _ (s₁.setTop (mkF m 18 #[.val (.int p0), .val (.int p1), .val (.int (p0 &&& (1073741823 : Int32))), .val (.int (0 : Int32)), .unset, .unset, .unset, .unset, .unset, .unset] [(.int (p0 &&& (1073741823 : Int32)))]))
    refine own_st (fun _ k => XS.iloadN X0.here hx rfl (hb hby at_18) rfl k) ?_
    show own_Go p e below _ (s₁.setTop (mkF m 19 #[.val (.int p0), .val (.int p1), .val (.int (p0 &&& (1073741823 : Int32))), .val (.int (0 : Int32)), .unset, .unset, .unset, .unset, .unset, .unset] [(.int (0 : Int32)), (.int (p0 &&& (1073741823 : Int32)))]))
    obtain ⟨_, T1, _, X1, ⟨rfl, rfl, e1⟩, st1⟩ := own_callS X0 hx hZ (y := (⟨"com/example/hornbeam/hornbeam/reason/RoleHierarchy", "role", "(IZ)I"⟩ : MethodName)) (argsL := [(.int (p0 &&& (1073741823 : Int32))), (.int (0 : Int32))]) (rest := []) (W := 0) (g := (mkF m 19 #[.val (.int p0), .val (.int p1), .val (.int (p0 &&& (1073741823 : Int32))), .val (.int (0 : Int32)), .unset, .unset, .unset, .unset, .unset, .unset] [(.int (0 : Int32)), (.int (p0 &&& (1073741823 : Int32)))])) (rm1 l Z tA hw (p0 &&& (1073741823 : Int32)) (0 : Int32) h0) hown (hw _ (List.mem_of_getElem? (i := 1) rfl)) (hw _ (List.mem_of_getElem? (i := 2) rfl)) (hw _ (List.mem_of_getElem? (i := 3) rfl)) (hw _ (List.mem_of_getElem? (i := 4) rfl)) (by decide) e0 rfl (by rw [hml]; rfl) pd_0 rfl rfl (by show 2 * 0 + _ ≤ _; exact Nat.le_of_eq rfl) (hb hby at_19) (by decide) (by decide) (by decide) (by decide)
    replace X1 := own_flat X1
    refine own_st st1 ?_
    show own_Go p e below _ (T1.setTop (mkF m 22 #[.val (.int p0), .val (.int p1), .val (.int (p0 &&& (1073741823 : Int32))), .val (.int (0 : Int32)), .unset, .unset, .unset, .unset, .unset, .unset] [(.int (own_role_0 (p0 &&& (1073741823 : Int32)) (0 : Int32)))]))
    refine own_st (fun _ k => XS.istore X1.here hx rfl (hb hby at_22) rfl (l' := #[.val (.int p0), .val (.int p1), .val (.int (p0 &&& (1073741823 : Int32))), .val (.int (0 : Int32)), .val (.int (own_role_0 (p0 &&& (1073741823 : Int32)) (0 : Int32))), .unset, .unset, .unset, .unset, .unset]) rfl k) ?_
    show own_Go p e below _ (T1.setTop (mkF m 24 #[.val (.int p0), .val (.int p1), .val (.int (p0 &&& (1073741823 : Int32))), .val (.int (0 : Int32)), .val (.int (own_role_0 (p0 &&& (1073741823 : Int32)) (0 : Int32))), .unset, .unset, .unset, .unset, .unset] []))
    refine own_st (fun _ k => XS.iloadN X1.here hx rfl (hb hby at_24) rfl k) ?_
    show own_Go p e below _ (T1.setTop (mkF m 25 #[.val (.int p0), .val (.int p1), .val (.int (p0 &&& (1073741823 : Int32))), .val (.int (0 : Int32)), .val (.int (own_role_0 (p0 &&& (1073741823 : Int32)) (0 : Int32))), .unset, .unset, .unset, .unset, .unset] [(.int (p0 &&& (1073741823 : Int32)))]))
    refine own_st (fun _ k => XS.iloadN X1.here hx rfl (hb hby at_25) rfl k) ?_
    show own_Go p e below _ (T1.setTop (mkF m 26 #[.val (.int p0), .val (.int p1), .val (.int (p0 &&& (1073741823 : Int32))), .val (.int (0 : Int32)), .val (.int (own_role_0 (p0 &&& (1073741823 : Int32)) (0 : Int32))), .unset, .unset, .unset, .unset, .unset] [(.int (0 : Int32)), (.int (p0 &&& (1073741823 : Int32)))]))
    refine own_st (fun _ k => XS.ifNo X1.here hx rfl (hb hby at_26) rfl ((own_i0 _ _).trans (own_nyes (by decide : (0 : Int32) = (0 : Int32)))) k) ?_
    show own_Go p e below _ (T1.setTop (mkF m 29 #[.val (.int p0), .val (.int p1), .val (.int (p0 &&& (1073741823 : Int32))), .val (.int (0 : Int32)), .val (.int (own_role_0 (p0 &&& (1073741823 : Int32)) (0 : Int32))), .unset, .unset, .unset, .unset, .unset] [(.int (p0 &&& (1073741823 : Int32)))]))
    refine own_st (fun _ k => XS.iconst X1.here hx rfl (hb hby at_29) k) ?_
    show own_Go p e below _ (T1.setTop (mkF m 30 #[.val (.int p0), .val (.int p1), .val (.int (p0 &&& (1073741823 : Int32))), .val (.int (0 : Int32)), .val (.int (own_role_0 (p0 &&& (1073741823 : Int32)) (0 : Int32))), .unset, .unset, .unset, .unset, .unset] [(.int (1 : Int32)), (.int (p0 &&& (1073741823 : Int32)))]))
    refine own_st (fun _ k => XS.goto X1.here hx rfl (pc0 := 30) (pc' := 34) rfl (hb hby at_30) (by decide) (by decide) k) ?_
    show own_Go p e below _ (T1.setTop (mkF m 34 #[.val (.int p0), .val (.int p1), .val (.int (p0 &&& (1073741823 : Int32))), .val (.int (0 : Int32)), .val (.int (own_role_0 (p0 &&& (1073741823 : Int32)) (0 : Int32))), .unset, .unset, .unset, .unset, .unset] [(.int (1 : Int32)), (.int (p0 &&& (1073741823 : Int32)))]))
    obtain ⟨_, T2, _, X2, ⟨rfl, rfl, e2⟩, st2⟩ := own_callS X1 hx hZ (y := (⟨"com/example/hornbeam/hornbeam/reason/RoleHierarchy", "role", "(IZ)I"⟩ : MethodName)) (argsL := [(.int (p0 &&& (1073741823 : Int32))), (.int (1 : Int32))]) (rest := []) (W := 0) (g := (mkF m 34 #[.val (.int p0), .val (.int p1), .val (.int (p0 &&& (1073741823 : Int32))), .val (.int (0 : Int32)), .val (.int (own_role_0 (p0 &&& (1073741823 : Int32)) (0 : Int32))), .unset, .unset, .unset, .unset, .unset] [(.int (1 : Int32)), (.int (p0 &&& (1073741823 : Int32)))])) (rm1 l Z tA hw (p0 &&& (1073741823 : Int32)) (1 : Int32) h0) hown (hw _ (List.mem_of_getElem? (i := 1) rfl)) (hw _ (List.mem_of_getElem? (i := 2) rfl)) (hw _ (List.mem_of_getElem? (i := 3) rfl)) (hw _ (List.mem_of_getElem? (i := 4) rfl)) (by decide) e1 rfl (by rw [hml]; rfl) pd_0 rfl rfl (by show 2 * 0 + _ ≤ _; exact Nat.le_of_eq rfl) (hb hby at_34) (by decide) (by decide) (by decide) (by decide)
    replace X2 := own_flat X2
    refine own_st st2 ?_
    show own_Go p e below _ (T2.setTop (mkF m 37 #[.val (.int p0), .val (.int p1), .val (.int (p0 &&& (1073741823 : Int32))), .val (.int (0 : Int32)), .val (.int (own_role_0 (p0 &&& (1073741823 : Int32)) (0 : Int32))), .unset, .unset, .unset, .unset, .unset] [(.int (own_role_0 (p0 &&& (1073741823 : Int32)) (1 : Int32)))]))
    refine own_st (fun _ k => XS.istore X2.here hx rfl (hb hby at_37) rfl (l' := #[.val (.int p0), .val (.int p1), .val (.int (p0 &&& (1073741823 : Int32))), .val (.int (0 : Int32)), .val (.int (own_role_0 (p0 &&& (1073741823 : Int32)) (0 : Int32))), .val (.int (own_role_0 (p0 &&& (1073741823 : Int32)) (1 : Int32))), .unset, .unset, .unset, .unset]) rfl k) ?_
    show own_Go p e below _ (T2.setTop (mkF m 39 #[.val (.int p0), .val (.int p1), .val (.int (p0 &&& (1073741823 : Int32))), .val (.int (0 : Int32)), .val (.int (own_role_0 (p0 &&& (1073741823 : Int32)) (0 : Int32))), .val (.int (own_role_0 (p0 &&& (1073741823 : Int32)) (1 : Int32))), .unset, .unset, .unset, .unset] []))
    refine own_st (fun _ k => XS.iload X2.here hx rfl (hb hby at_39) rfl k) ?_
    show own_Go p e below _ (T2.setTop (mkF m 41 #[.val (.int p0), .val (.int p1), .val (.int (p0 &&& (1073741823 : Int32))), .val (.int (0 : Int32)), .val (.int (own_role_0 (p0 &&& (1073741823 : Int32)) (0 : Int32))), .val (.int (own_role_0 (p0 &&& (1073741823 : Int32)) (1 : Int32))), .unset, .unset, .unset, .unset] [(.int (own_role_0 (p0 &&& (1073741823 : Int32)) (0 : Int32)))]))
    refine own_st (fun _ k => XS.ifNo X2.here hx rfl (hb hby at_41) rfl ((own_i0 _ _).trans (own_no (own_nn0 p0))) k) ?_
    show own_Go p e below _ (T2.setTop (mkF m 44 #[.val (.int p0), .val (.int p1), .val (.int (p0 &&& (1073741823 : Int32))), .val (.int (0 : Int32)), .val (.int (own_role_0 (p0 &&& (1073741823 : Int32)) (0 : Int32))), .val (.int (own_role_0 (p0 &&& (1073741823 : Int32)) (1 : Int32))), .unset, .unset, .unset, .unset] []))
    refine own_st (fun _ k => XS.iconst X2.here hx rfl (hb hby at_44) k) ?_
    show own_Go p e below _ (T2.setTop (mkF m 45 #[.val (.int p0), .val (.int p1), .val (.int (p0 &&& (1073741823 : Int32))), .val (.int (0 : Int32)), .val (.int (own_role_0 (p0 &&& (1073741823 : Int32)) (0 : Int32))), .val (.int (own_role_0 (p0 &&& (1073741823 : Int32)) (1 : Int32))), .unset, .unset, .unset, .unset] [(.int (1 : Int32))]))
    refine own_st (fun _ k => XS.goto X2.here hx rfl (pc0 := 45) (pc' := 49) rfl (hb hby at_45) (by decide) (by decide) k) ?_
    show own_Go p e below _ (T2.setTop (mkF m 49 #[.val (.int p0), .val (.int p1), .val (.int (p0 &&& (1073741823 : Int32))), .val (.int (0 : Int32)), .val (.int (own_role_0 (p0 &&& (1073741823 : Int32)) (0 : Int32))), .val (.int (own_role_0 (p0 &&& (1073741823 : Int32)) (1 : Int32))), .unset, .unset, .unset, .unset] [(.int (1 : Int32))]))
    refine own_st (fun _ k => XS.istore X2.here hx rfl (hb hby at_49) rfl (l' := #[.val (.int p0), .val (.int p1), .val (.int (p0 &&& (1073741823 : Int32))), .val (.int (0 : Int32)), .val (.int (own_role_0 (p0 &&& (1073741823 : Int32)) (0 : Int32))), .val (.int (own_role_0 (p0 &&& (1073741823 : Int32)) (1 : Int32))), .val (.int (1 : Int32)), .unset, .unset, .unset]) rfl k) ?_
    show own_Go p e below _ (T2.setTop (mkF m 51 #[.val (.int p0), .val (.int p1), .val (.int (p0 &&& (1073741823 : Int32))), .val (.int (0 : Int32)), .val (.int (own_role_0 (p0 &&& (1073741823 : Int32)) (0 : Int32))), .val (.int (own_role_0 (p0 &&& (1073741823 : Int32)) (1 : Int32))), .val (.int (1 : Int32)), .unset, .unset, .unset] []))
    refine own_st (fun _ k => XS.iload X2.here hx rfl (hb hby at_51) rfl k) ?_
    show own_Go p e below _ (T2.setTop (mkF m 53 #[.val (.int p0), .val (.int p1), .val (.int (p0 &&& (1073741823 : Int32))), .val (.int (0 : Int32)), .val (.int (own_role_0 (p0 &&& (1073741823 : Int32)) (0 : Int32))), .val (.int (own_role_0 (p0 &&& (1073741823 : Int32)) (1 : Int32))), .val (.int (1 : Int32)), .unset, .unset, .unset] [(.int (own_role_0 (p0 &&& (1073741823 : Int32)) (0 : Int32)))]))
    refine own_st (fun _ k => XS.iconst X2.here hx rfl (hb hby at_53) k) ?_
    show own_Go p e below _ (T2.setTop (mkF m 54 #[.val (.int p0), .val (.int p1), .val (.int (p0 &&& (1073741823 : Int32))), .val (.int (0 : Int32)), .val (.int (own_role_0 (p0 &&& (1073741823 : Int32)) (0 : Int32))), .val (.int (own_role_0 (p0 &&& (1073741823 : Int32)) (1 : Int32))), .val (.int (1 : Int32)), .unset, .unset, .unset] [(.int (1 : Int32)), (.int (own_role_0 (p0 &&& (1073741823 : Int32)) (0 : Int32)))]))
    refine own_st (fun _ k => XS.ishr X2.here hx rfl (hb hby at_54) rfl k) ?_
    show own_Go p e below _ (T2.setTop (mkF m 55 #[.val (.int p0), .val (.int p1), .val (.int (p0 &&& (1073741823 : Int32))), .val (.int (0 : Int32)), .val (.int (own_role_0 (p0 &&& (1073741823 : Int32)) (0 : Int32))), .val (.int (own_role_0 (p0 &&& (1073741823 : Int32)) (1 : Int32))), .val (.int (1 : Int32)), .unset, .unset, .unset] [(.int ((own_role_0 (p0 &&& (1073741823 : Int32)) (0 : Int32)) >>> ((1 : Int32) &&& 31)))]))
    refine own_st (fun _ k => XS.iloadN X2.here hx rfl (hb hby at_55) rfl k) ?_
    show own_Go p e below _ (T2.setTop (mkF m 56 #[.val (.int p0), .val (.int p1), .val (.int (p0 &&& (1073741823 : Int32))), .val (.int (0 : Int32)), .val (.int (own_role_0 (p0 &&& (1073741823 : Int32)) (0 : Int32))), .val (.int (own_role_0 (p0 &&& (1073741823 : Int32)) (1 : Int32))), .val (.int (1 : Int32)), .unset, .unset, .unset] [(.int (p0 &&& (1073741823 : Int32))), (.int ((own_role_0 (p0 &&& (1073741823 : Int32)) (0 : Int32)) >>> ((1 : Int32) &&& 31)))]))
    refine own_st (fun _ k => XS.icmpNo X2.here hx rfl (hb hby at_56) rfl ((own_i2 _ _ _).trans (own_nyes (own_b0 p0))) k) ?_
    show own_Go p e below _ (T2.setTop (mkF m 59 #[.val (.int p0), .val (.int p1), .val (.int (p0 &&& (1073741823 : Int32))), .val (.int (0 : Int32)), .val (.int (own_role_0 (p0 &&& (1073741823 : Int32)) (0 : Int32))), .val (.int (own_role_0 (p0 &&& (1073741823 : Int32)) (1 : Int32))), .val (.int (1 : Int32)), .unset, .unset, .unset] []))
    refine own_st (fun _ k => XS.iconst X2.here hx rfl (hb hby at_59) k) ?_
    show own_Go p e below _ (T2.setTop (mkF m 60 #[.val (.int p0), .val (.int p1), .val (.int (p0 &&& (1073741823 : Int32))), .val (.int (0 : Int32)), .val (.int (own_role_0 (p0 &&& (1073741823 : Int32)) (0 : Int32))), .val (.int (own_role_0 (p0 &&& (1073741823 : Int32)) (1 : Int32))), .val (.int (1 : Int32)), .unset, .unset, .unset] [(.int (1 : Int32))]))
    refine own_st (fun _ k => XS.goto X2.here hx rfl (pc0 := 60) (pc' := 64) rfl (hb hby at_60) (by decide) (by decide) k) ?_
    show own_Go p e below _ (T2.setTop (mkF m 64 #[.val (.int p0), .val (.int p1), .val (.int (p0 &&& (1073741823 : Int32))), .val (.int (0 : Int32)), .val (.int (own_role_0 (p0 &&& (1073741823 : Int32)) (0 : Int32))), .val (.int (own_role_0 (p0 &&& (1073741823 : Int32)) (1 : Int32))), .val (.int (1 : Int32)), .unset, .unset, .unset] [(.int (1 : Int32))]))
    refine own_st (fun _ k => XS.istore X2.here hx rfl (hb hby at_64) rfl (l' := #[.val (.int p0), .val (.int p1), .val (.int (p0 &&& (1073741823 : Int32))), .val (.int (0 : Int32)), .val (.int (own_role_0 (p0 &&& (1073741823 : Int32)) (0 : Int32))), .val (.int (own_role_0 (p0 &&& (1073741823 : Int32)) (1 : Int32))), .val (.int (1 : Int32)), .val (.int (1 : Int32)), .unset, .unset]) rfl k) ?_
    show own_Go p e below _ (T2.setTop (mkF m 66 #[.val (.int p0), .val (.int p1), .val (.int (p0 &&& (1073741823 : Int32))), .val (.int (0 : Int32)), .val (.int (own_role_0 (p0 &&& (1073741823 : Int32)) (0 : Int32))), .val (.int (own_role_0 (p0 &&& (1073741823 : Int32)) (1 : Int32))), .val (.int (1 : Int32)), .val (.int (1 : Int32)), .unset, .unset] []))
    refine own_st (fun _ k => XS.iload X2.here hx rfl (hb hby at_66) rfl k) ?_
    show own_Go p e below _ (T2.setTop (mkF m 68 #[.val (.int p0), .val (.int p1), .val (.int (p0 &&& (1073741823 : Int32))), .val (.int (0 : Int32)), .val (.int (own_role_0 (p0 &&& (1073741823 : Int32)) (0 : Int32))), .val (.int (own_role_0 (p0 &&& (1073741823 : Int32)) (1 : Int32))), .val (.int (1 : Int32)), .val (.int (1 : Int32)), .unset, .unset] [(.int (own_role_0 (p0 &&& (1073741823 : Int32)) (0 : Int32)))]))
    refine own_st (fun _ k => XS.iconst X2.here hx rfl (hb hby at_68) k) ?_
    show own_Go p e below _ (T2.setTop (mkF m 69 #[.val (.int p0), .val (.int p1), .val (.int (p0 &&& (1073741823 : Int32))), .val (.int (0 : Int32)), .val (.int (own_role_0 (p0 &&& (1073741823 : Int32)) (0 : Int32))), .val (.int (own_role_0 (p0 &&& (1073741823 : Int32)) (1 : Int32))), .val (.int (1 : Int32)), .val (.int (1 : Int32)), .unset, .unset] [(.int (1 : Int32)), (.int (own_role_0 (p0 &&& (1073741823 : Int32)) (0 : Int32)))]))
    refine own_st (fun _ k => XS.iand X2.here hx rfl (hb hby at_69) rfl k) ?_
    show own_Go p e below _ (T2.setTop (mkF m 70 #[.val (.int p0), .val (.int p1), .val (.int (p0 &&& (1073741823 : Int32))), .val (.int (0 : Int32)), .val (.int (own_role_0 (p0 &&& (1073741823 : Int32)) (0 : Int32))), .val (.int (own_role_0 (p0 &&& (1073741823 : Int32)) (1 : Int32))), .val (.int (1 : Int32)), .val (.int (1 : Int32)), .unset, .unset] [(.int ((own_role_0 (p0 &&& (1073741823 : Int32)) (0 : Int32)) &&& (1 : Int32)))]))
    refine own_st (fun _ k => XS.iloadN X2.here hx rfl (hb hby at_70) rfl k) ?_
    show own_Go p e below _ (T2.setTop (mkF m 71 #[.val (.int p0), .val (.int p1), .val (.int (p0 &&& (1073741823 : Int32))), .val (.int (0 : Int32)), .val (.int (own_role_0 (p0 &&& (1073741823 : Int32)) (0 : Int32))), .val (.int (own_role_0 (p0 &&& (1073741823 : Int32)) (1 : Int32))), .val (.int (1 : Int32)), .val (.int (1 : Int32)), .unset, .unset] [(.int (0 : Int32)), (.int ((own_role_0 (p0 &&& (1073741823 : Int32)) (0 : Int32)) &&& (1 : Int32)))]))
    refine own_st (fun _ k => XS.ifYes X2.here hx rfl (pc0 := 71) (pc' := 78) rfl (hb hby at_71) rfl ((own_i0 _ _).trans (own_yes (by decide : (0 : Int32) = (0 : Int32)))) (by decide) (by decide) k) ?_
    show own_Go p e below _ (T2.setTop (mkF m 78 #[.val (.int p0), .val (.int p1), .val (.int (p0 &&& (1073741823 : Int32))), .val (.int (0 : Int32)), .val (.int (own_role_0 (p0 &&& (1073741823 : Int32)) (0 : Int32))), .val (.int (own_role_0 (p0 &&& (1073741823 : Int32)) (1 : Int32))), .val (.int (1 : Int32)), .val (.int (1 : Int32)), .unset, .unset] [(.int ((own_role_0 (p0 &&& (1073741823 : Int32)) (0 : Int32)) &&& (1 : Int32)))]))
    refine own_st (fun _ k => XS.iconst X2.here hx rfl (hb hby at_78) k) ?_
    show own_Go p e below _ (T2.setTop (mkF m 79 #[.val (.int p0), .val (.int p1), .val (.int (p0 &&& (1073741823 : Int32))), .val (.int (0 : Int32)), .val (.int (own_role_0 (p0 &&& (1073741823 : Int32)) (0 : Int32))), .val (.int (own_role_0 (p0 &&& (1073741823 : Int32)) (1 : Int32))), .val (.int (1 : Int32)), .val (.int (1 : Int32)), .unset, .unset] [(.int (0 : Int32)), (.int ((own_role_0 (p0 &&& (1073741823 : Int32)) (0 : Int32)) &&& (1 : Int32)))]))
    refine own_st (fun _ k => XS.icmpNo X2.here hx rfl (hb hby at_79) rfl ((own_i2 _ _ _).trans (own_nyes (own_l0' p0))) k) ?_
    show own_Go p e below _ (T2.setTop (mkF m 82 #[.val (.int p0), .val (.int p1), .val (.int (p0 &&& (1073741823 : Int32))), .val (.int (0 : Int32)), .val (.int (own_role_0 (p0 &&& (1073741823 : Int32)) (0 : Int32))), .val (.int (own_role_0 (p0 &&& (1073741823 : Int32)) (1 : Int32))), .val (.int (1 : Int32)), .val (.int (1 : Int32)), .unset, .unset] []))
    refine own_st (fun _ k => XS.iconst X2.here hx rfl (hb hby at_82) k) ?_
    show own_Go p e below _ (T2.setTop (mkF m 83 #[.val (.int p0), .val (.int p1), .val (.int (p0 &&& (1073741823 : Int32))), .val (.int (0 : Int32)), .val (.int (own_role_0 (p0 &&& (1073741823 : Int32)) (0 : Int32))), .val (.int (own_role_0 (p0 &&& (1073741823 : Int32)) (1 : Int32))), .val (.int (1 : Int32)), .val (.int (1 : Int32)), .unset, .unset] [(.int (1 : Int32))]))
    refine own_st (fun _ k => XS.goto X2.here hx rfl (pc0 := 83) (pc' := 87) rfl (hb hby at_83) (by decide) (by decide) k) ?_
    show own_Go p e below _ (T2.setTop (mkF m 87 #[.val (.int p0), .val (.int p1), .val (.int (p0 &&& (1073741823 : Int32))), .val (.int (0 : Int32)), .val (.int (own_role_0 (p0 &&& (1073741823 : Int32)) (0 : Int32))), .val (.int (own_role_0 (p0 &&& (1073741823 : Int32)) (1 : Int32))), .val (.int (1 : Int32)), .val (.int (1 : Int32)), .unset, .unset] [(.int (1 : Int32))]))
    refine own_st (fun _ k => XS.istore X2.here hx rfl (hb hby at_87) rfl (l' := #[.val (.int p0), .val (.int p1), .val (.int (p0 &&& (1073741823 : Int32))), .val (.int (0 : Int32)), .val (.int (own_role_0 (p0 &&& (1073741823 : Int32)) (0 : Int32))), .val (.int (own_role_0 (p0 &&& (1073741823 : Int32)) (1 : Int32))), .val (.int (1 : Int32)), .val (.int (1 : Int32)), .val (.int (1 : Int32)), .unset]) rfl k) ?_
    show own_Go p e below _ (T2.setTop (mkF m 89 #[.val (.int p0), .val (.int p1), .val (.int (p0 &&& (1073741823 : Int32))), .val (.int (0 : Int32)), .val (.int (own_role_0 (p0 &&& (1073741823 : Int32)) (0 : Int32))), .val (.int (own_role_0 (p0 &&& (1073741823 : Int32)) (1 : Int32))), .val (.int (1 : Int32)), .val (.int (1 : Int32)), .val (.int (1 : Int32)), .unset] []))
    refine own_st (fun _ k => XS.iload X2.here hx rfl (hb hby at_89) rfl k) ?_
    show own_Go p e below _ (T2.setTop (mkF m 91 #[.val (.int p0), .val (.int p1), .val (.int (p0 &&& (1073741823 : Int32))), .val (.int (0 : Int32)), .val (.int (own_role_0 (p0 &&& (1073741823 : Int32)) (0 : Int32))), .val (.int (own_role_0 (p0 &&& (1073741823 : Int32)) (1 : Int32))), .val (.int (1 : Int32)), .val (.int (1 : Int32)), .val (.int (1 : Int32)), .unset] [(.int (own_role_0 (p0 &&& (1073741823 : Int32)) (0 : Int32)))]))
    obtain ⟨_, T3, _, X3, ⟨rfl, rfl, e3⟩, st3⟩ := own_callS X2 hx hZ (y := (⟨"com/example/hornbeam/hornbeam/reason/RoleHierarchy", "inverse", "(I)I"⟩ : MethodName)) (argsL := [(.int (own_role_0 (p0 &&& (1073741823 : Int32)) (0 : Int32)))]) (rest := []) (W := 0) (g := (mkF m 91 #[.val (.int p0), .val (.int p1), .val (.int (p0 &&& (1073741823 : Int32))), .val (.int (0 : Int32)), .val (.int (own_role_0 (p0 &&& (1073741823 : Int32)) (0 : Int32))), .val (.int (own_role_0 (p0 &&& (1073741823 : Int32)) (1 : Int32))), .val (.int (1 : Int32)), .val (.int (1 : Int32)), .val (.int (1 : Int32)), .unset] [(.int (own_role_0 (p0 &&& (1073741823 : Int32)) (0 : Int32)))])) (rm2 l Z tA hw (own_role_0 (p0 &&& (1073741823 : Int32)) (0 : Int32)) h0) hown (hw _ (List.mem_of_getElem? (i := 5) rfl)) (hw _ (List.mem_of_getElem? (i := 6) rfl)) (hw _ (List.mem_of_getElem? (i := 3) rfl)) (hw _ (List.mem_of_getElem? (i := 7) rfl)) (by decide) e2 rfl (by rw [hml]; rfl) pd_1 rfl rfl (by show 2 * 0 + _ ≤ _; exact Nat.le_of_eq rfl) (hb hby at_91) (by decide) (by decide) (by decide) (by decide)
    replace X3 := own_flat X3
    refine own_st st3 ?_
    show own_Go p e below _ (T3.setTop (mkF m 94 #[.val (.int p0), .val (.int p1), .val (.int (p0 &&& (1073741823 : Int32))), .val (.int (0 : Int32)), .val (.int (own_role_0 (p0 &&& (1073741823 : Int32)) (0 : Int32))), .val (.int (own_role_0 (p0 &&& (1073741823 : Int32)) (1 : Int32))), .val (.int (1 : Int32)), .val (.int (1 : Int32)), .val (.int (1 : Int32)), .unset] [(.int (own_inv_0 (own_role_0 (p0 &&& (1073741823 : Int32)) (0 : Int32))))]))
    refine own_st (fun _ k => XS.iload X3.here hx rfl (hb hby at_94) rfl k) ?_
    show own_Go p e below _ (T3.setTop (mkF m 96 #[.val (.int p0), .val (.int p1), .val (.int (p0 &&& (1073741823 : Int32))), .val (.int (0 : Int32)), .val (.int (own_role_0 (p0 &&& (1073741823 : Int32)) (0 : Int32))), .val (.int (own_role_0 (p0 &&& (1073741823 : Int32)) (1 : Int32))), .val (.int (1 : Int32)), .val (.int (1 : Int32)), .val (.int (1 : Int32)), .unset] [(.int (own_role_0 (p0 &&& (1073741823 : Int32)) (1 : Int32))), (.int (own_inv_0 (own_role_0 (p0 &&& (1073741823 : Int32)) (0 : Int32))))]))
    refine own_st (fun _ k => XS.icmpNo X3.here hx rfl (hb hby at_96) rfl ((own_i2 _ _ _).trans (own_nyes (own_v0 p0))) k) ?_
    show own_Go p e below _ (T3.setTop (mkF m 99 #[.val (.int p0), .val (.int p1), .val (.int (p0 &&& (1073741823 : Int32))), .val (.int (0 : Int32)), .val (.int (own_role_0 (p0 &&& (1073741823 : Int32)) (0 : Int32))), .val (.int (own_role_0 (p0 &&& (1073741823 : Int32)) (1 : Int32))), .val (.int (1 : Int32)), .val (.int (1 : Int32)), .val (.int (1 : Int32)), .unset] []))
    refine own_st (fun _ k => XS.iconst X3.here hx rfl (hb hby at_99) k) ?_
    show own_Go p e below _ (T3.setTop (mkF m 100 #[.val (.int p0), .val (.int p1), .val (.int (p0 &&& (1073741823 : Int32))), .val (.int (0 : Int32)), .val (.int (own_role_0 (p0 &&& (1073741823 : Int32)) (0 : Int32))), .val (.int (own_role_0 (p0 &&& (1073741823 : Int32)) (1 : Int32))), .val (.int (1 : Int32)), .val (.int (1 : Int32)), .val (.int (1 : Int32)), .unset] [(.int (1 : Int32))]))
    refine own_st (fun _ k => XS.goto X3.here hx rfl (pc0 := 100) (pc' := 104) rfl (hb hby at_100) (by decide) (by decide) k) ?_
    show own_Go p e below _ (T3.setTop (mkF m 104 #[.val (.int p0), .val (.int p1), .val (.int (p0 &&& (1073741823 : Int32))), .val (.int (0 : Int32)), .val (.int (own_role_0 (p0 &&& (1073741823 : Int32)) (0 : Int32))), .val (.int (own_role_0 (p0 &&& (1073741823 : Int32)) (1 : Int32))), .val (.int (1 : Int32)), .val (.int (1 : Int32)), .val (.int (1 : Int32)), .unset] [(.int (1 : Int32))]))
    refine own_st (fun _ k => XS.istore X3.here hx rfl (hb hby at_104) rfl (l' := #[.val (.int p0), .val (.int p1), .val (.int (p0 &&& (1073741823 : Int32))), .val (.int (0 : Int32)), .val (.int (own_role_0 (p0 &&& (1073741823 : Int32)) (0 : Int32))), .val (.int (own_role_0 (p0 &&& (1073741823 : Int32)) (1 : Int32))), .val (.int (1 : Int32)), .val (.int (1 : Int32)), .val (.int (1 : Int32)), .val (.int (1 : Int32))]) rfl k) ?_
    show own_Go p e below _ (T3.setTop (mkF m 106 #[.val (.int p0), .val (.int p1), .val (.int (p0 &&& (1073741823 : Int32))), .val (.int (0 : Int32)), .val (.int (own_role_0 (p0 &&& (1073741823 : Int32)) (0 : Int32))), .val (.int (own_role_0 (p0 &&& (1073741823 : Int32)) (1 : Int32))), .val (.int (1 : Int32)), .val (.int (1 : Int32)), .val (.int (1 : Int32)), .val (.int (1 : Int32))] []))
    refine own_st (fun _ k => XS.iload X3.here hx rfl (hb hby at_106) rfl k) ?_
    show own_Go p e below _ (T3.setTop (mkF m 108 #[.val (.int p0), .val (.int p1), .val (.int (p0 &&& (1073741823 : Int32))), .val (.int (0 : Int32)), .val (.int (own_role_0 (p0 &&& (1073741823 : Int32)) (0 : Int32))), .val (.int (own_role_0 (p0 &&& (1073741823 : Int32)) (1 : Int32))), .val (.int (1 : Int32)), .val (.int (1 : Int32)), .val (.int (1 : Int32)), .val (.int (1 : Int32))] [(.int (1 : Int32))]))
    refine own_st (fun _ k => XS.ifNo X3.here hx rfl (hb hby at_108) rfl ((own_i0 _ _).trans (own_no (by decide : ¬ ((1 : Int32) = (0 : Int32))))) k) ?_
    show own_Go p e below _ (T3.setTop (mkF m 111 #[.val (.int p0), .val (.int p1), .val (.int (p0 &&& (1073741823 : Int32))), .val (.int (0 : Int32)), .val (.int (own_role_0 (p0 &&& (1073741823 : Int32)) (0 : Int32))), .val (.int (own_role_0 (p0 &&& (1073741823 : Int32)) (1 : Int32))), .val (.int (1 : Int32)), .val (.int (1 : Int32)), .val (.int (1 : Int32)), .val (.int (1 : Int32))] []))
    refine own_st (fun _ k => XS.iload X3.here hx rfl (hb hby at_111) rfl k) ?_
    show own_Go p e below _ (T3.setTop (mkF m 113 #[.val (.int p0), .val (.int p1), .val (.int (p0 &&& (1073741823 : Int32))), .val (.int (0 : Int32)), .val (.int (own_role_0 (p0 &&& (1073741823 : Int32)) (0 : Int32))), .val (.int (own_role_0 (p0 &&& (1073741823 : Int32)) (1 : Int32))), .val (.int (1 : Int32)), .val (.int (1 : Int32)), .val (.int (1 : Int32)), .val (.int (1 : Int32))] [(.int (1 : Int32))]))
    refine own_st (fun _ k => XS.ifNo X3.here hx rfl (hb hby at_113) rfl ((own_i0 _ _).trans (own_no (by decide : ¬ ((1 : Int32) = (0 : Int32))))) k) ?_
    show own_Go p e below _ (T3.setTop (mkF m 116 #[.val (.int p0), .val (.int p1), .val (.int (p0 &&& (1073741823 : Int32))), .val (.int (0 : Int32)), .val (.int (own_role_0 (p0 &&& (1073741823 : Int32)) (0 : Int32))), .val (.int (own_role_0 (p0 &&& (1073741823 : Int32)) (1 : Int32))), .val (.int (1 : Int32)), .val (.int (1 : Int32)), .val (.int (1 : Int32)), .val (.int (1 : Int32))] []))
    refine own_st (fun _ k => XS.iload X3.here hx rfl (hb hby at_116) rfl k) ?_
    show own_Go p e below _ (T3.setTop (mkF m 118 #[.val (.int p0), .val (.int p1), .val (.int (p0 &&& (1073741823 : Int32))), .val (.int (0 : Int32)), .val (.int (own_role_0 (p0 &&& (1073741823 : Int32)) (0 : Int32))), .val (.int (own_role_0 (p0 &&& (1073741823 : Int32)) (1 : Int32))), .val (.int (1 : Int32)), .val (.int (1 : Int32)), .val (.int (1 : Int32)), .val (.int (1 : Int32))] [(.int (1 : Int32))]))
    refine own_st (fun _ k => XS.ifNo X3.here hx rfl (hb hby at_118) rfl ((own_i0 _ _).trans (own_no (by decide : ¬ ((1 : Int32) = (0 : Int32))))) k) ?_
    show own_Go p e below _ (T3.setTop (mkF m 121 #[.val (.int p0), .val (.int p1), .val (.int (p0 &&& (1073741823 : Int32))), .val (.int (0 : Int32)), .val (.int (own_role_0 (p0 &&& (1073741823 : Int32)) (0 : Int32))), .val (.int (own_role_0 (p0 &&& (1073741823 : Int32)) (1 : Int32))), .val (.int (1 : Int32)), .val (.int (1 : Int32)), .val (.int (1 : Int32)), .val (.int (1 : Int32))] []))
    refine own_st (fun _ k => XS.iload X3.here hx rfl (hb hby at_121) rfl k) ?_
    show own_Go p e below _ (T3.setTop (mkF m 123 #[.val (.int p0), .val (.int p1), .val (.int (p0 &&& (1073741823 : Int32))), .val (.int (0 : Int32)), .val (.int (own_role_0 (p0 &&& (1073741823 : Int32)) (0 : Int32))), .val (.int (own_role_0 (p0 &&& (1073741823 : Int32)) (1 : Int32))), .val (.int (1 : Int32)), .val (.int (1 : Int32)), .val (.int (1 : Int32)), .val (.int (1 : Int32))] [(.int (1 : Int32))]))
    refine own_st (fun _ k => XS.ifNo X3.here hx rfl (hb hby at_123) rfl ((own_i0 _ _).trans (own_no (by decide : ¬ ((1 : Int32) = (0 : Int32))))) k) ?_
    show own_Go p e below _ (T3.setTop (mkF m 126 #[.val (.int p0), .val (.int p1), .val (.int (p0 &&& (1073741823 : Int32))), .val (.int (0 : Int32)), .val (.int (own_role_0 (p0 &&& (1073741823 : Int32)) (0 : Int32))), .val (.int (own_role_0 (p0 &&& (1073741823 : Int32)) (1 : Int32))), .val (.int (1 : Int32)), .val (.int (1 : Int32)), .val (.int (1 : Int32)), .val (.int (1 : Int32))] []))
    refine own_st (fun _ k => XS.iconst X3.here hx rfl (hb hby at_126) k) ?_
    show own_Go p e below _ (T3.setTop (mkF m 127 #[.val (.int p0), .val (.int p1), .val (.int (p0 &&& (1073741823 : Int32))), .val (.int (0 : Int32)), .val (.int (own_role_0 (p0 &&& (1073741823 : Int32)) (0 : Int32))), .val (.int (own_role_0 (p0 &&& (1073741823 : Int32)) (1 : Int32))), .val (.int (1 : Int32)), .val (.int (1 : Int32)), .val (.int (1 : Int32)), .val (.int (1 : Int32))] [(.int (1 : Int32))]))
    refine own_st (fun _ k => XS.goto X3.here hx rfl (pc0 := 127) (pc' := 131) rfl (hb hby at_127) (by decide) (by decide) k) ?_
    show own_Go p e below _ (T3.setTop (mkF m 131 #[.val (.int p0), .val (.int p1), .val (.int (p0 &&& (1073741823 : Int32))), .val (.int (0 : Int32)), .val (.int (own_role_0 (p0 &&& (1073741823 : Int32)) (0 : Int32))), .val (.int (own_role_0 (p0 &&& (1073741823 : Int32)) (1 : Int32))), .val (.int (1 : Int32)), .val (.int (1 : Int32)), .val (.int (1 : Int32)), .val (.int (1 : Int32))] [(.int (1 : Int32))]))
    exact own_retZ X3 hx hlk hret rfl (hb hby at_131) ⟨rfl, N0⟩ (by decide) (by decide)
  · refine own_st (fun _ k => XS.ifNo X0.here hx rfl (hb hby at_8) rfl ((own_i0 _ _).trans (own_no hc8)) k) ?_
    show own_Go p e below _ (s₁.setTop (mkF m 11 #[.val (.int p0), .val (.int p1), .val (.int (p0 &&& (1073741823 : Int32))), .unset, .unset, .unset, .unset, .unset, .unset, .unset] []))
    refine own_st (fun _ k => XS.iconst X0.here hx rfl (hb hby at_11) k) ?_
    show own_Go p e below _ (s₁.setTop (mkF m 12 #[.val (.int p0), .val (.int p1), .val (.int (p0 &&& (1073741823 : Int32))), .unset, .unset, .unset, .unset, .unset, .unset, .unset] [(.int (1 : Int32))]))
    refine own_st (fun _ k => XS.goto X0.here hx rfl (pc0 := 12) (pc' := 16) rfl (hb hby at_12) (by decide) (by decide) k) ?_
    show own_Go p e below _ (s₁.setTop (mkF m 16 #[.val (.int p0), .val (.int p1), .val (.int (p0 &&& (1073741823 : Int32))), .unset, .unset, .unset, .unset, .unset, .unset, .unset] [(.int (1 : Int32))]))
    refine own_st (fun _ k => XS.istoreN X0.here hx rfl (hb hby at_16) rfl (l' := #[.val (.int p0), .val (.int p1), .val (.int (p0 &&& (1073741823 : Int32))), .val (.int (1 : Int32)), .unset, .unset, .unset, .unset, .unset, .unset]) rfl k) ?_
    show own_Go p e below _ (s₁.setTop (mkF m 17 #[.val (.int p0), .val (.int p1), .val (.int (p0 &&& (1073741823 : Int32))), .val (.int (1 : Int32)), .unset, .unset, .unset, .unset, .unset, .unset] []))
    refine own_st (fun _ k => XS.iloadN X0.here hx rfl (hb hby at_17) rfl k) ?_
    show own_Go p e below _ (s₁.setTop (mkF m 18 #[.val (.int p0), .val (.int p1), .val (.int (p0 &&& (1073741823 : Int32))), .val (.int (1 : Int32)), .unset, .unset, .unset, .unset, .unset, .unset] [(.int (p0 &&& (1073741823 : Int32)))]))
    refine own_st (fun _ k => XS.iloadN X0.here hx rfl (hb hby at_18) rfl k) ?_
    show own_Go p e below _ (s₁.setTop (mkF m 19 #[.val (.int p0), .val (.int p1), .val (.int (p0 &&& (1073741823 : Int32))), .val (.int (1 : Int32)), .unset, .unset, .unset, .unset, .unset, .unset] [(.int (1 : Int32)), (.int (p0 &&& (1073741823 : Int32)))]))
    obtain ⟨_, T4, _, X4, ⟨rfl, rfl, e4⟩, st4⟩ := own_callS X0 hx hZ (y := (⟨"com/example/hornbeam/hornbeam/reason/RoleHierarchy", "role", "(IZ)I"⟩ : MethodName)) (argsL := [(.int (p0 &&& (1073741823 : Int32))), (.int (1 : Int32))]) (rest := []) (W := 0) (g := (mkF m 19 #[.val (.int p0), .val (.int p1), .val (.int (p0 &&& (1073741823 : Int32))), .val (.int (1 : Int32)), .unset, .unset, .unset, .unset, .unset, .unset] [(.int (1 : Int32)), (.int (p0 &&& (1073741823 : Int32)))])) (rm1 l Z tA hw (p0 &&& (1073741823 : Int32)) (1 : Int32) h0) hown (hw _ (List.mem_of_getElem? (i := 1) rfl)) (hw _ (List.mem_of_getElem? (i := 2) rfl)) (hw _ (List.mem_of_getElem? (i := 3) rfl)) (hw _ (List.mem_of_getElem? (i := 4) rfl)) (by decide) e0 rfl (by rw [hml]; rfl) pd_0 rfl rfl (by show 2 * 0 + _ ≤ _; exact Nat.le_of_eq rfl) (hb hby at_19) (by decide) (by decide) (by decide) (by decide)
    replace X4 := own_flat X4
    refine own_st st4 ?_
    show own_Go p e below _ (T4.setTop (mkF m 22 #[.val (.int p0), .val (.int p1), .val (.int (p0 &&& (1073741823 : Int32))), .val (.int (1 : Int32)), .unset, .unset, .unset, .unset, .unset, .unset] [(.int (own_role_0 (p0 &&& (1073741823 : Int32)) (1 : Int32)))]))
    refine own_st (fun _ k => XS.istore X4.here hx rfl (hb hby at_22) rfl (l' := #[.val (.int p0), .val (.int p1), .val (.int (p0 &&& (1073741823 : Int32))), .val (.int (1 : Int32)), .val (.int (own_role_0 (p0 &&& (1073741823 : Int32)) (1 : Int32))), .unset, .unset, .unset, .unset, .unset]) rfl k) ?_
    show own_Go p e below _ (T4.setTop (mkF m 24 #[.val (.int p0), .val (.int p1), .val (.int (p0 &&& (1073741823 : Int32))), .val (.int (1 : Int32)), .val (.int (own_role_0 (p0 &&& (1073741823 : Int32)) (1 : Int32))), .unset, .unset, .unset, .unset, .unset] []))
    refine own_st (fun _ k => XS.iloadN X4.here hx rfl (hb hby at_24) rfl k) ?_
    show own_Go p e below _ (T4.setTop (mkF m 25 #[.val (.int p0), .val (.int p1), .val (.int (p0 &&& (1073741823 : Int32))), .val (.int (1 : Int32)), .val (.int (own_role_0 (p0 &&& (1073741823 : Int32)) (1 : Int32))), .unset, .unset, .unset, .unset, .unset] [(.int (p0 &&& (1073741823 : Int32)))]))
    refine own_st (fun _ k => XS.iloadN X4.here hx rfl (hb hby at_25) rfl k) ?_
    show own_Go p e below _ (T4.setTop (mkF m 26 #[.val (.int p0), .val (.int p1), .val (.int (p0 &&& (1073741823 : Int32))), .val (.int (1 : Int32)), .val (.int (own_role_0 (p0 &&& (1073741823 : Int32)) (1 : Int32))), .unset, .unset, .unset, .unset, .unset] [(.int (1 : Int32)), (.int (p0 &&& (1073741823 : Int32)))]))
    refine own_st (fun _ k => XS.ifYes X4.here hx rfl (pc0 := 26) (pc' := 33) rfl (hb hby at_26) rfl ((own_i0 _ _).trans (own_nno (by decide : ¬ ((1 : Int32) = (0 : Int32))))) (by decide) (by decide) k) ?_
    show own_Go p e below _ (T4.setTop (mkF m 33 #[.val (.int p0), .val (.int p1), .val (.int (p0 &&& (1073741823 : Int32))), .val (.int (1 : Int32)), .val (.int (own_role_0 (p0 &&& (1073741823 : Int32)) (1 : Int32))), .unset, .unset, .unset, .unset, .unset] [(.int (p0 &&& (1073741823 : Int32)))]))
    refine own_st (fun _ k => XS.iconst X4.here hx rfl (hb hby at_33) k) ?_
    show own_Go p e below _ (T4.setTop (mkF m 34 #[.val (.int p0), .val (.int p1), .val (.int (p0 &&& (1073741823 : Int32))), .val (.int (1 : Int32)), .val (.int (own_role_0 (p0 &&& (1073741823 : Int32)) (1 : Int32))), .unset, .unset, .unset, .unset, .unset] [(.int (0 : Int32)), (.int (p0 &&& (1073741823 : Int32)))]))
    obtain ⟨_, T5, _, X5, ⟨rfl, rfl, e5⟩, st5⟩ := own_callS X4 hx hZ (y := (⟨"com/example/hornbeam/hornbeam/reason/RoleHierarchy", "role", "(IZ)I"⟩ : MethodName)) (argsL := [(.int (p0 &&& (1073741823 : Int32))), (.int (0 : Int32))]) (rest := []) (W := 0) (g := (mkF m 34 #[.val (.int p0), .val (.int p1), .val (.int (p0 &&& (1073741823 : Int32))), .val (.int (1 : Int32)), .val (.int (own_role_0 (p0 &&& (1073741823 : Int32)) (1 : Int32))), .unset, .unset, .unset, .unset, .unset] [(.int (0 : Int32)), (.int (p0 &&& (1073741823 : Int32)))])) (rm1 l Z tA hw (p0 &&& (1073741823 : Int32)) (0 : Int32) h0) hown (hw _ (List.mem_of_getElem? (i := 1) rfl)) (hw _ (List.mem_of_getElem? (i := 2) rfl)) (hw _ (List.mem_of_getElem? (i := 3) rfl)) (hw _ (List.mem_of_getElem? (i := 4) rfl)) (by decide) e4 rfl (by rw [hml]; rfl) pd_0 rfl rfl (by show 2 * 0 + _ ≤ _; exact Nat.le_of_eq rfl) (hb hby at_34) (by decide) (by decide) (by decide) (by decide)
    replace X5 := own_flat X5
    refine own_st st5 ?_
    show own_Go p e below _ (T5.setTop (mkF m 37 #[.val (.int p0), .val (.int p1), .val (.int (p0 &&& (1073741823 : Int32))), .val (.int (1 : Int32)), .val (.int (own_role_0 (p0 &&& (1073741823 : Int32)) (1 : Int32))), .unset, .unset, .unset, .unset, .unset] [(.int (own_role_0 (p0 &&& (1073741823 : Int32)) (0 : Int32)))]))
    refine own_st (fun _ k => XS.istore X5.here hx rfl (hb hby at_37) rfl (l' := #[.val (.int p0), .val (.int p1), .val (.int (p0 &&& (1073741823 : Int32))), .val (.int (1 : Int32)), .val (.int (own_role_0 (p0 &&& (1073741823 : Int32)) (1 : Int32))), .val (.int (own_role_0 (p0 &&& (1073741823 : Int32)) (0 : Int32))), .unset, .unset, .unset, .unset]) rfl k) ?_
    show own_Go p e below _ (T5.setTop (mkF m 39 #[.val (.int p0), .val (.int p1), .val (.int (p0 &&& (1073741823 : Int32))), .val (.int (1 : Int32)), .val (.int (own_role_0 (p0 &&& (1073741823 : Int32)) (1 : Int32))), .val (.int (own_role_0 (p0 &&& (1073741823 : Int32)) (0 : Int32))), .unset, .unset, .unset, .unset] []))
    refine own_st (fun _ k => XS.iload X5.here hx rfl (hb hby at_39) rfl k) ?_
    show own_Go p e below _ (T5.setTop (mkF m 41 #[.val (.int p0), .val (.int p1), .val (.int (p0 &&& (1073741823 : Int32))), .val (.int (1 : Int32)), .val (.int (own_role_0 (p0 &&& (1073741823 : Int32)) (1 : Int32))), .val (.int (own_role_0 (p0 &&& (1073741823 : Int32)) (0 : Int32))), .unset, .unset, .unset, .unset] [(.int (own_role_0 (p0 &&& (1073741823 : Int32)) (1 : Int32)))]))
    refine own_st (fun _ k => XS.ifNo X5.here hx rfl (hb hby at_41) rfl ((own_i0 _ _).trans (own_no (own_nn1 p0))) k) ?_
    show own_Go p e below _ (T5.setTop (mkF m 44 #[.val (.int p0), .val (.int p1), .val (.int (p0 &&& (1073741823 : Int32))), .val (.int (1 : Int32)), .val (.int (own_role_0 (p0 &&& (1073741823 : Int32)) (1 : Int32))), .val (.int (own_role_0 (p0 &&& (1073741823 : Int32)) (0 : Int32))), .unset, .unset, .unset, .unset] []))
    refine own_st (fun _ k => XS.iconst X5.here hx rfl (hb hby at_44) k) ?_
    show own_Go p e below _ (T5.setTop (mkF m 45 #[.val (.int p0), .val (.int p1), .val (.int (p0 &&& (1073741823 : Int32))), .val (.int (1 : Int32)), .val (.int (own_role_0 (p0 &&& (1073741823 : Int32)) (1 : Int32))), .val (.int (own_role_0 (p0 &&& (1073741823 : Int32)) (0 : Int32))), .unset, .unset, .unset, .unset] [(.int (1 : Int32))]))
    refine own_st (fun _ k => XS.goto X5.here hx rfl (pc0 := 45) (pc' := 49) rfl (hb hby at_45) (by decide) (by decide) k) ?_
    show own_Go p e below _ (T5.setTop (mkF m 49 #[.val (.int p0), .val (.int p1), .val (.int (p0 &&& (1073741823 : Int32))), .val (.int (1 : Int32)), .val (.int (own_role_0 (p0 &&& (1073741823 : Int32)) (1 : Int32))), .val (.int (own_role_0 (p0 &&& (1073741823 : Int32)) (0 : Int32))), .unset, .unset, .unset, .unset] [(.int (1 : Int32))]))
    refine own_st (fun _ k => XS.istore X5.here hx rfl (hb hby at_49) rfl (l' := #[.val (.int p0), .val (.int p1), .val (.int (p0 &&& (1073741823 : Int32))), .val (.int (1 : Int32)), .val (.int (own_role_0 (p0 &&& (1073741823 : Int32)) (1 : Int32))), .val (.int (own_role_0 (p0 &&& (1073741823 : Int32)) (0 : Int32))), .val (.int (1 : Int32)), .unset, .unset, .unset]) rfl k) ?_
    show own_Go p e below _ (T5.setTop (mkF m 51 #[.val (.int p0), .val (.int p1), .val (.int (p0 &&& (1073741823 : Int32))), .val (.int (1 : Int32)), .val (.int (own_role_0 (p0 &&& (1073741823 : Int32)) (1 : Int32))), .val (.int (own_role_0 (p0 &&& (1073741823 : Int32)) (0 : Int32))), .val (.int (1 : Int32)), .unset, .unset, .unset] []))
    refine own_st (fun _ k => XS.iload X5.here hx rfl (hb hby at_51) rfl k) ?_
    show own_Go p e below _ (T5.setTop (mkF m 53 #[.val (.int p0), .val (.int p1), .val (.int (p0 &&& (1073741823 : Int32))), .val (.int (1 : Int32)), .val (.int (own_role_0 (p0 &&& (1073741823 : Int32)) (1 : Int32))), .val (.int (own_role_0 (p0 &&& (1073741823 : Int32)) (0 : Int32))), .val (.int (1 : Int32)), .unset, .unset, .unset] [(.int (own_role_0 (p0 &&& (1073741823 : Int32)) (1 : Int32)))]))
    refine own_st (fun _ k => XS.iconst X5.here hx rfl (hb hby at_53) k) ?_
    show own_Go p e below _ (T5.setTop (mkF m 54 #[.val (.int p0), .val (.int p1), .val (.int (p0 &&& (1073741823 : Int32))), .val (.int (1 : Int32)), .val (.int (own_role_0 (p0 &&& (1073741823 : Int32)) (1 : Int32))), .val (.int (own_role_0 (p0 &&& (1073741823 : Int32)) (0 : Int32))), .val (.int (1 : Int32)), .unset, .unset, .unset] [(.int (1 : Int32)), (.int (own_role_0 (p0 &&& (1073741823 : Int32)) (1 : Int32)))]))
    refine own_st (fun _ k => XS.ishr X5.here hx rfl (hb hby at_54) rfl k) ?_
    show own_Go p e below _ (T5.setTop (mkF m 55 #[.val (.int p0), .val (.int p1), .val (.int (p0 &&& (1073741823 : Int32))), .val (.int (1 : Int32)), .val (.int (own_role_0 (p0 &&& (1073741823 : Int32)) (1 : Int32))), .val (.int (own_role_0 (p0 &&& (1073741823 : Int32)) (0 : Int32))), .val (.int (1 : Int32)), .unset, .unset, .unset] [(.int ((own_role_0 (p0 &&& (1073741823 : Int32)) (1 : Int32)) >>> ((1 : Int32) &&& 31)))]))
    refine own_st (fun _ k => XS.iloadN X5.here hx rfl (hb hby at_55) rfl k) ?_
    show own_Go p e below _ (T5.setTop (mkF m 56 #[.val (.int p0), .val (.int p1), .val (.int (p0 &&& (1073741823 : Int32))), .val (.int (1 : Int32)), .val (.int (own_role_0 (p0 &&& (1073741823 : Int32)) (1 : Int32))), .val (.int (own_role_0 (p0 &&& (1073741823 : Int32)) (0 : Int32))), .val (.int (1 : Int32)), .unset, .unset, .unset] [(.int (p0 &&& (1073741823 : Int32))), (.int ((own_role_0 (p0 &&& (1073741823 : Int32)) (1 : Int32)) >>> ((1 : Int32) &&& 31)))]))
    refine own_st (fun _ k => XS.icmpNo X5.here hx rfl (hb hby at_56) rfl ((own_i2 _ _ _).trans (own_nyes (own_b1 p0))) k) ?_
    show own_Go p e below _ (T5.setTop (mkF m 59 #[.val (.int p0), .val (.int p1), .val (.int (p0 &&& (1073741823 : Int32))), .val (.int (1 : Int32)), .val (.int (own_role_0 (p0 &&& (1073741823 : Int32)) (1 : Int32))), .val (.int (own_role_0 (p0 &&& (1073741823 : Int32)) (0 : Int32))), .val (.int (1 : Int32)), .unset, .unset, .unset] []))
    refine own_st (fun _ k => XS.iconst X5.here hx rfl (hb hby at_59) k) ?_
    show own_Go p e below _ (T5.setTop (mkF m 60 #[.val (.int p0), .val (.int p1), .val (.int (p0 &&& (1073741823 : Int32))), .val (.int (1 : Int32)), .val (.int (own_role_0 (p0 &&& (1073741823 : Int32)) (1 : Int32))), .val (.int (own_role_0 (p0 &&& (1073741823 : Int32)) (0 : Int32))), .val (.int (1 : Int32)), .unset, .unset, .unset] [(.int (1 : Int32))]))
    refine own_st (fun _ k => XS.goto X5.here hx rfl (pc0 := 60) (pc' := 64) rfl (hb hby at_60) (by decide) (by decide) k) ?_
    show own_Go p e below _ (T5.setTop (mkF m 64 #[.val (.int p0), .val (.int p1), .val (.int (p0 &&& (1073741823 : Int32))), .val (.int (1 : Int32)), .val (.int (own_role_0 (p0 &&& (1073741823 : Int32)) (1 : Int32))), .val (.int (own_role_0 (p0 &&& (1073741823 : Int32)) (0 : Int32))), .val (.int (1 : Int32)), .unset, .unset, .unset] [(.int (1 : Int32))]))
    refine own_st (fun _ k => XS.istore X5.here hx rfl (hb hby at_64) rfl (l' := #[.val (.int p0), .val (.int p1), .val (.int (p0 &&& (1073741823 : Int32))), .val (.int (1 : Int32)), .val (.int (own_role_0 (p0 &&& (1073741823 : Int32)) (1 : Int32))), .val (.int (own_role_0 (p0 &&& (1073741823 : Int32)) (0 : Int32))), .val (.int (1 : Int32)), .val (.int (1 : Int32)), .unset, .unset]) rfl k) ?_
    show own_Go p e below _ (T5.setTop (mkF m 66 #[.val (.int p0), .val (.int p1), .val (.int (p0 &&& (1073741823 : Int32))), .val (.int (1 : Int32)), .val (.int (own_role_0 (p0 &&& (1073741823 : Int32)) (1 : Int32))), .val (.int (own_role_0 (p0 &&& (1073741823 : Int32)) (0 : Int32))), .val (.int (1 : Int32)), .val (.int (1 : Int32)), .unset, .unset] []))
    refine own_st (fun _ k => XS.iload X5.here hx rfl (hb hby at_66) rfl k) ?_
    show own_Go p e below _ (T5.setTop (mkF m 68 #[.val (.int p0), .val (.int p1), .val (.int (p0 &&& (1073741823 : Int32))), .val (.int (1 : Int32)), .val (.int (own_role_0 (p0 &&& (1073741823 : Int32)) (1 : Int32))), .val (.int (own_role_0 (p0 &&& (1073741823 : Int32)) (0 : Int32))), .val (.int (1 : Int32)), .val (.int (1 : Int32)), .unset, .unset] [(.int (own_role_0 (p0 &&& (1073741823 : Int32)) (1 : Int32)))]))
    refine own_st (fun _ k => XS.iconst X5.here hx rfl (hb hby at_68) k) ?_
    show own_Go p e below _ (T5.setTop (mkF m 69 #[.val (.int p0), .val (.int p1), .val (.int (p0 &&& (1073741823 : Int32))), .val (.int (1 : Int32)), .val (.int (own_role_0 (p0 &&& (1073741823 : Int32)) (1 : Int32))), .val (.int (own_role_0 (p0 &&& (1073741823 : Int32)) (0 : Int32))), .val (.int (1 : Int32)), .val (.int (1 : Int32)), .unset, .unset] [(.int (1 : Int32)), (.int (own_role_0 (p0 &&& (1073741823 : Int32)) (1 : Int32)))]))
    refine own_st (fun _ k => XS.iand X5.here hx rfl (hb hby at_69) rfl k) ?_
    show own_Go p e below _ (T5.setTop (mkF m 70 #[.val (.int p0), .val (.int p1), .val (.int (p0 &&& (1073741823 : Int32))), .val (.int (1 : Int32)), .val (.int (own_role_0 (p0 &&& (1073741823 : Int32)) (1 : Int32))), .val (.int (own_role_0 (p0 &&& (1073741823 : Int32)) (0 : Int32))), .val (.int (1 : Int32)), .val (.int (1 : Int32)), .unset, .unset] [(.int ((own_role_0 (p0 &&& (1073741823 : Int32)) (1 : Int32)) &&& (1 : Int32)))]))
    refine own_st (fun _ k => XS.iloadN X5.here hx rfl (hb hby at_70) rfl k) ?_
    show own_Go p e below _ (T5.setTop (mkF m 71 #[.val (.int p0), .val (.int p1), .val (.int (p0 &&& (1073741823 : Int32))), .val (.int (1 : Int32)), .val (.int (own_role_0 (p0 &&& (1073741823 : Int32)) (1 : Int32))), .val (.int (own_role_0 (p0 &&& (1073741823 : Int32)) (0 : Int32))), .val (.int (1 : Int32)), .val (.int (1 : Int32)), .unset, .unset] [(.int (1 : Int32)), (.int ((own_role_0 (p0 &&& (1073741823 : Int32)) (1 : Int32)) &&& (1 : Int32)))]))
    refine own_st (fun _ k => XS.ifNo X5.here hx rfl (hb hby at_71) rfl ((own_i0 _ _).trans (own_no (by decide : ¬ ((1 : Int32) = (0 : Int32))))) k) ?_
    show own_Go p e below _ (T5.setTop (mkF m 74 #[.val (.int p0), .val (.int p1), .val (.int (p0 &&& (1073741823 : Int32))), .val (.int (1 : Int32)), .val (.int (own_role_0 (p0 &&& (1073741823 : Int32)) (1 : Int32))), .val (.int (own_role_0 (p0 &&& (1073741823 : Int32)) (0 : Int32))), .val (.int (1 : Int32)), .val (.int (1 : Int32)), .unset, .unset] [(.int ((own_role_0 (p0 &&& (1073741823 : Int32)) (1 : Int32)) &&& (1 : Int32)))]))
    refine own_st (fun _ k => XS.iconst X5.here hx rfl (hb hby at_74) k) ?_
    show own_Go p e below _ (T5.setTop (mkF m 75 #[.val (.int p0), .val (.int p1), .val (.int (p0 &&& (1073741823 : Int32))), .val (.int (1 : Int32)), .val (.int (own_role_0 (p0 &&& (1073741823 : Int32)) (1 : Int32))), .val (.int (own_role_0 (p0 &&& (1073741823 : Int32)) (0 : Int32))), .val (.int (1 : Int32)), .val (.int (1 : Int32)), .unset, .unset] [(.int (1 : Int32)), (.int ((own_role_0 (p0 &&& (1073741823 : Int32)) (1 : Int32)) &&& (1 : Int32)))]))
    refine own_st (fun _ k => XS.goto X5.here hx rfl (pc0 := 75) (pc' := 79) rfl (hb hby at_75) (by decide) (by decide) k) ?_
    show own_Go p e below _ (T5.setTop (mkF m 79 #[.val (.int p0), .val (.int p1), .val (.int (p0 &&& (1073741823 : Int32))), .val (.int (1 : Int32)), .val (.int (own_role_0 (p0 &&& (1073741823 : Int32)) (1 : Int32))), .val (.int (own_role_0 (p0 &&& (1073741823 : Int32)) (0 : Int32))), .val (.int (1 : Int32)), .val (.int (1 : Int32)), .unset, .unset] [(.int (1 : Int32)), (.int ((own_role_0 (p0 &&& (1073741823 : Int32)) (1 : Int32)) &&& (1 : Int32)))]))
    refine own_st (fun _ k => XS.icmpNo X5.here hx rfl (hb hby at_79) rfl ((own_i2 _ _ _).trans (own_nyes (own_l1 p0))) k) ?_
    show own_Go p e below _ (T5.setTop (mkF m 82 #[.val (.int p0), .val (.int p1), .val (.int (p0 &&& (1073741823 : Int32))), .val (.int (1 : Int32)), .val (.int (own_role_0 (p0 &&& (1073741823 : Int32)) (1 : Int32))), .val (.int (own_role_0 (p0 &&& (1073741823 : Int32)) (0 : Int32))), .val (.int (1 : Int32)), .val (.int (1 : Int32)), .unset, .unset] []))
    refine own_st (fun _ k => XS.iconst X5.here hx rfl (hb hby at_82) k) ?_
    show own_Go p e below _ (T5.setTop (mkF m 83 #[.val (.int p0), .val (.int p1), .val (.int (p0 &&& (1073741823 : Int32))), .val (.int (1 : Int32)), .val (.int (own_role_0 (p0 &&& (1073741823 : Int32)) (1 : Int32))), .val (.int (own_role_0 (p0 &&& (1073741823 : Int32)) (0 : Int32))), .val (.int (1 : Int32)), .val (.int (1 : Int32)), .unset, .unset] [(.int (1 : Int32))]))
    refine own_st (fun _ k => XS.goto X5.here hx rfl (pc0 := 83) (pc' := 87) rfl (hb hby at_83) (by decide) (by decide) k) ?_
    show own_Go p e below _ (T5.setTop (mkF m 87 #[.val (.int p0), .val (.int p1), .val (.int (p0 &&& (1073741823 : Int32))), .val (.int (1 : Int32)), .val (.int (own_role_0 (p0 &&& (1073741823 : Int32)) (1 : Int32))), .val (.int (own_role_0 (p0 &&& (1073741823 : Int32)) (0 : Int32))), .val (.int (1 : Int32)), .val (.int (1 : Int32)), .unset, .unset] [(.int (1 : Int32))]))
    refine own_st (fun _ k => XS.istore X5.here hx rfl (hb hby at_87) rfl (l' := #[.val (.int p0), .val (.int p1), .val (.int (p0 &&& (1073741823 : Int32))), .val (.int (1 : Int32)), .val (.int (own_role_0 (p0 &&& (1073741823 : Int32)) (1 : Int32))), .val (.int (own_role_0 (p0 &&& (1073741823 : Int32)) (0 : Int32))), .val (.int (1 : Int32)), .val (.int (1 : Int32)), .val (.int (1 : Int32)), .unset]) rfl k) ?_
    show own_Go p e below _ (T5.setTop (mkF m 89 #[.val (.int p0), .val (.int p1), .val (.int (p0 &&& (1073741823 : Int32))), .val (.int (1 : Int32)), .val (.int (own_role_0 (p0 &&& (1073741823 : Int32)) (1 : Int32))), .val (.int (own_role_0 (p0 &&& (1073741823 : Int32)) (0 : Int32))), .val (.int (1 : Int32)), .val (.int (1 : Int32)), .val (.int (1 : Int32)), .unset] []))
    refine own_st (fun _ k => XS.iload X5.here hx rfl (hb hby at_89) rfl k) ?_
    show own_Go p e below _ (T5.setTop (mkF m 91 #[.val (.int p0), .val (.int p1), .val (.int (p0 &&& (1073741823 : Int32))), .val (.int (1 : Int32)), .val (.int (own_role_0 (p0 &&& (1073741823 : Int32)) (1 : Int32))), .val (.int (own_role_0 (p0 &&& (1073741823 : Int32)) (0 : Int32))), .val (.int (1 : Int32)), .val (.int (1 : Int32)), .val (.int (1 : Int32)), .unset] [(.int (own_role_0 (p0 &&& (1073741823 : Int32)) (1 : Int32)))]))
    obtain ⟨_, T6, _, X6, ⟨rfl, rfl, e6⟩, st6⟩ := own_callS X5 hx hZ (y := (⟨"com/example/hornbeam/hornbeam/reason/RoleHierarchy", "inverse", "(I)I"⟩ : MethodName)) (argsL := [(.int (own_role_0 (p0 &&& (1073741823 : Int32)) (1 : Int32)))]) (rest := []) (W := 0) (g := (mkF m 91 #[.val (.int p0), .val (.int p1), .val (.int (p0 &&& (1073741823 : Int32))), .val (.int (1 : Int32)), .val (.int (own_role_0 (p0 &&& (1073741823 : Int32)) (1 : Int32))), .val (.int (own_role_0 (p0 &&& (1073741823 : Int32)) (0 : Int32))), .val (.int (1 : Int32)), .val (.int (1 : Int32)), .val (.int (1 : Int32)), .unset] [(.int (own_role_0 (p0 &&& (1073741823 : Int32)) (1 : Int32)))])) (rm2 l Z tA hw (own_role_0 (p0 &&& (1073741823 : Int32)) (1 : Int32)) h0) hown (hw _ (List.mem_of_getElem? (i := 5) rfl)) (hw _ (List.mem_of_getElem? (i := 6) rfl)) (hw _ (List.mem_of_getElem? (i := 3) rfl)) (hw _ (List.mem_of_getElem? (i := 7) rfl)) (by decide) e5 rfl (by rw [hml]; rfl) pd_1 rfl rfl (by show 2 * 0 + _ ≤ _; exact Nat.le_of_eq rfl) (hb hby at_91) (by decide) (by decide) (by decide) (by decide)
    replace X6 := own_flat X6
    refine own_st st6 ?_
    show own_Go p e below _ (T6.setTop (mkF m 94 #[.val (.int p0), .val (.int p1), .val (.int (p0 &&& (1073741823 : Int32))), .val (.int (1 : Int32)), .val (.int (own_role_0 (p0 &&& (1073741823 : Int32)) (1 : Int32))), .val (.int (own_role_0 (p0 &&& (1073741823 : Int32)) (0 : Int32))), .val (.int (1 : Int32)), .val (.int (1 : Int32)), .val (.int (1 : Int32)), .unset] [(.int (own_inv_0 (own_role_0 (p0 &&& (1073741823 : Int32)) (1 : Int32))))]))
    refine own_st (fun _ k => XS.iload X6.here hx rfl (hb hby at_94) rfl k) ?_
    show own_Go p e below _ (T6.setTop (mkF m 96 #[.val (.int p0), .val (.int p1), .val (.int (p0 &&& (1073741823 : Int32))), .val (.int (1 : Int32)), .val (.int (own_role_0 (p0 &&& (1073741823 : Int32)) (1 : Int32))), .val (.int (own_role_0 (p0 &&& (1073741823 : Int32)) (0 : Int32))), .val (.int (1 : Int32)), .val (.int (1 : Int32)), .val (.int (1 : Int32)), .unset] [(.int (own_role_0 (p0 &&& (1073741823 : Int32)) (0 : Int32))), (.int (own_inv_0 (own_role_0 (p0 &&& (1073741823 : Int32)) (1 : Int32))))]))
    refine own_st (fun _ k => XS.icmpNo X6.here hx rfl (hb hby at_96) rfl ((own_i2 _ _ _).trans (own_nyes (own_v1 p0))) k) ?_
    show own_Go p e below _ (T6.setTop (mkF m 99 #[.val (.int p0), .val (.int p1), .val (.int (p0 &&& (1073741823 : Int32))), .val (.int (1 : Int32)), .val (.int (own_role_0 (p0 &&& (1073741823 : Int32)) (1 : Int32))), .val (.int (own_role_0 (p0 &&& (1073741823 : Int32)) (0 : Int32))), .val (.int (1 : Int32)), .val (.int (1 : Int32)), .val (.int (1 : Int32)), .unset] []))
    refine own_st (fun _ k => XS.iconst X6.here hx rfl (hb hby at_99) k) ?_
    show own_Go p e below _ (T6.setTop (mkF m 100 #[.val (.int p0), .val (.int p1), .val (.int (p0 &&& (1073741823 : Int32))), .val (.int (1 : Int32)), .val (.int (own_role_0 (p0 &&& (1073741823 : Int32)) (1 : Int32))), .val (.int (own_role_0 (p0 &&& (1073741823 : Int32)) (0 : Int32))), .val (.int (1 : Int32)), .val (.int (1 : Int32)), .val (.int (1 : Int32)), .unset] [(.int (1 : Int32))]))
    refine own_st (fun _ k => XS.goto X6.here hx rfl (pc0 := 100) (pc' := 104) rfl (hb hby at_100) (by decide) (by decide) k) ?_
    show own_Go p e below _ (T6.setTop (mkF m 104 #[.val (.int p0), .val (.int p1), .val (.int (p0 &&& (1073741823 : Int32))), .val (.int (1 : Int32)), .val (.int (own_role_0 (p0 &&& (1073741823 : Int32)) (1 : Int32))), .val (.int (own_role_0 (p0 &&& (1073741823 : Int32)) (0 : Int32))), .val (.int (1 : Int32)), .val (.int (1 : Int32)), .val (.int (1 : Int32)), .unset] [(.int (1 : Int32))]))
    refine own_st (fun _ k => XS.istore X6.here hx rfl (hb hby at_104) rfl (l' := #[.val (.int p0), .val (.int p1), .val (.int (p0 &&& (1073741823 : Int32))), .val (.int (1 : Int32)), .val (.int (own_role_0 (p0 &&& (1073741823 : Int32)) (1 : Int32))), .val (.int (own_role_0 (p0 &&& (1073741823 : Int32)) (0 : Int32))), .val (.int (1 : Int32)), .val (.int (1 : Int32)), .val (.int (1 : Int32)), .val (.int (1 : Int32))]) rfl k) ?_
    show own_Go p e below _ (T6.setTop (mkF m 106 #[.val (.int p0), .val (.int p1), .val (.int (p0 &&& (1073741823 : Int32))), .val (.int (1 : Int32)), .val (.int (own_role_0 (p0 &&& (1073741823 : Int32)) (1 : Int32))), .val (.int (own_role_0 (p0 &&& (1073741823 : Int32)) (0 : Int32))), .val (.int (1 : Int32)), .val (.int (1 : Int32)), .val (.int (1 : Int32)), .val (.int (1 : Int32))] []))
    refine own_st (fun _ k => XS.iload X6.here hx rfl (hb hby at_106) rfl k) ?_
    show own_Go p e below _ (T6.setTop (mkF m 108 #[.val (.int p0), .val (.int p1), .val (.int (p0 &&& (1073741823 : Int32))), .val (.int (1 : Int32)), .val (.int (own_role_0 (p0 &&& (1073741823 : Int32)) (1 : Int32))), .val (.int (own_role_0 (p0 &&& (1073741823 : Int32)) (0 : Int32))), .val (.int (1 : Int32)), .val (.int (1 : Int32)), .val (.int (1 : Int32)), .val (.int (1 : Int32))] [(.int (1 : Int32))]))
    refine own_st (fun _ k => XS.ifNo X6.here hx rfl (hb hby at_108) rfl ((own_i0 _ _).trans (own_no (by decide : ¬ ((1 : Int32) = (0 : Int32))))) k) ?_
    show own_Go p e below _ (T6.setTop (mkF m 111 #[.val (.int p0), .val (.int p1), .val (.int (p0 &&& (1073741823 : Int32))), .val (.int (1 : Int32)), .val (.int (own_role_0 (p0 &&& (1073741823 : Int32)) (1 : Int32))), .val (.int (own_role_0 (p0 &&& (1073741823 : Int32)) (0 : Int32))), .val (.int (1 : Int32)), .val (.int (1 : Int32)), .val (.int (1 : Int32)), .val (.int (1 : Int32))] []))
    refine own_st (fun _ k => XS.iload X6.here hx rfl (hb hby at_111) rfl k) ?_
    show own_Go p e below _ (T6.setTop (mkF m 113 #[.val (.int p0), .val (.int p1), .val (.int (p0 &&& (1073741823 : Int32))), .val (.int (1 : Int32)), .val (.int (own_role_0 (p0 &&& (1073741823 : Int32)) (1 : Int32))), .val (.int (own_role_0 (p0 &&& (1073741823 : Int32)) (0 : Int32))), .val (.int (1 : Int32)), .val (.int (1 : Int32)), .val (.int (1 : Int32)), .val (.int (1 : Int32))] [(.int (1 : Int32))]))
    refine own_st (fun _ k => XS.ifNo X6.here hx rfl (hb hby at_113) rfl ((own_i0 _ _).trans (own_no (by decide : ¬ ((1 : Int32) = (0 : Int32))))) k) ?_
    show own_Go p e below _ (T6.setTop (mkF m 116 #[.val (.int p0), .val (.int p1), .val (.int (p0 &&& (1073741823 : Int32))), .val (.int (1 : Int32)), .val (.int (own_role_0 (p0 &&& (1073741823 : Int32)) (1 : Int32))), .val (.int (own_role_0 (p0 &&& (1073741823 : Int32)) (0 : Int32))), .val (.int (1 : Int32)), .val (.int (1 : Int32)), .val (.int (1 : Int32)), .val (.int (1 : Int32))] []))
    refine own_st (fun _ k => XS.iload X6.here hx rfl (hb hby at_116) rfl k) ?_
    show own_Go p e below _ (T6.setTop (mkF m 118 #[.val (.int p0), .val (.int p1), .val (.int (p0 &&& (1073741823 : Int32))), .val (.int (1 : Int32)), .val (.int (own_role_0 (p0 &&& (1073741823 : Int32)) (1 : Int32))), .val (.int (own_role_0 (p0 &&& (1073741823 : Int32)) (0 : Int32))), .val (.int (1 : Int32)), .val (.int (1 : Int32)), .val (.int (1 : Int32)), .val (.int (1 : Int32))] [(.int (1 : Int32))]))
    refine own_st (fun _ k => XS.ifNo X6.here hx rfl (hb hby at_118) rfl ((own_i0 _ _).trans (own_no (by decide : ¬ ((1 : Int32) = (0 : Int32))))) k) ?_
    show own_Go p e below _ (T6.setTop (mkF m 121 #[.val (.int p0), .val (.int p1), .val (.int (p0 &&& (1073741823 : Int32))), .val (.int (1 : Int32)), .val (.int (own_role_0 (p0 &&& (1073741823 : Int32)) (1 : Int32))), .val (.int (own_role_0 (p0 &&& (1073741823 : Int32)) (0 : Int32))), .val (.int (1 : Int32)), .val (.int (1 : Int32)), .val (.int (1 : Int32)), .val (.int (1 : Int32))] []))
    refine own_st (fun _ k => XS.iload X6.here hx rfl (hb hby at_121) rfl k) ?_
    show own_Go p e below _ (T6.setTop (mkF m 123 #[.val (.int p0), .val (.int p1), .val (.int (p0 &&& (1073741823 : Int32))), .val (.int (1 : Int32)), .val (.int (own_role_0 (p0 &&& (1073741823 : Int32)) (1 : Int32))), .val (.int (own_role_0 (p0 &&& (1073741823 : Int32)) (0 : Int32))), .val (.int (1 : Int32)), .val (.int (1 : Int32)), .val (.int (1 : Int32)), .val (.int (1 : Int32))] [(.int (1 : Int32))]))
    refine own_st (fun _ k => XS.ifNo X6.here hx rfl (hb hby at_123) rfl ((own_i0 _ _).trans (own_no (by decide : ¬ ((1 : Int32) = (0 : Int32))))) k) ?_
    show own_Go p e below _ (T6.setTop (mkF m 126 #[.val (.int p0), .val (.int p1), .val (.int (p0 &&& (1073741823 : Int32))), .val (.int (1 : Int32)), .val (.int (own_role_0 (p0 &&& (1073741823 : Int32)) (1 : Int32))), .val (.int (own_role_0 (p0 &&& (1073741823 : Int32)) (0 : Int32))), .val (.int (1 : Int32)), .val (.int (1 : Int32)), .val (.int (1 : Int32)), .val (.int (1 : Int32))] []))
    refine own_st (fun _ k => XS.iconst X6.here hx rfl (hb hby at_126) k) ?_
    show own_Go p e below _ (T6.setTop (mkF m 127 #[.val (.int p0), .val (.int p1), .val (.int (p0 &&& (1073741823 : Int32))), .val (.int (1 : Int32)), .val (.int (own_role_0 (p0 &&& (1073741823 : Int32)) (1 : Int32))), .val (.int (own_role_0 (p0 &&& (1073741823 : Int32)) (0 : Int32))), .val (.int (1 : Int32)), .val (.int (1 : Int32)), .val (.int (1 : Int32)), .val (.int (1 : Int32))] [(.int (1 : Int32))]))
    refine own_st (fun _ k => XS.goto X6.here hx rfl (pc0 := 127) (pc' := 131) rfl (hb hby at_127) (by decide) (by decide) k) ?_
    show own_Go p e below _ (T6.setTop (mkF m 131 #[.val (.int p0), .val (.int p1), .val (.int (p0 &&& (1073741823 : Int32))), .val (.int (1 : Int32)), .val (.int (own_role_0 (p0 &&& (1073741823 : Int32)) (1 : Int32))), .val (.int (own_role_0 (p0 &&& (1073741823 : Int32)) (0 : Int32))), .val (.int (1 : Int32)), .val (.int (1 : Int32)), .val (.int (1 : Int32)), .val (.int (1 : Int32))] [(.int (1 : Int32))]))
    exact own_retZ X6 hx hlk hret rfl (hb hby at_131) ⟨rfl, N0⟩ (by decide) (by decide)
set_option maxRecDepth 65536 in
set_option maxHeartbeats 40000000 in
theorem comes_1 {Post : Tables → Env → Array Value → State → Outcome → State → Prop} (hpost : ∀ tb e args s v u, (limb_1_1.after args s (.returned v) u = true ∧ limb_1_2.after args s (.returned v) u = true ∧ True) → FrameEnd s (.returned v) u (Jvm.fieldLocs frame_1_writes args s ++ Jvm.arrayLocs frame_1_arrays args s ++ Jvm.staticLocs frame_1_statics s) 0 0 → Post tb e args s (.returned v) u) :
    ArmFor flags0 classFile x code maxLocals ret World_1 tables_1 room_1 Calls_1 rest_1 Pre_1 Post := by
  intro l hfl _ _ p e ha hc hk s m args below hf hA hF happ hP
  obtain ⟨hcalls, hrest, hpre⟩ := hP
  obtain ⟨-, -, -, hnamed, -, -, -, hat⟩ := (Spec.applies_iff hf).mp happ
  obtain ⟨hg, hn⟩ := and_e (Cond.before_iff.mp (show (Jvm.Cond.and given_1 narrow_1).before args s = true from hpre))
  obtain ⟨g1, g2⟩ := and_e hg
  obtain ⟨g3, g4⟩ := and_e g2
  obtain ⟨w0, w1, rfl⟩ : ∃ w0 w1 : Value, args = #[w0, w1] := by
    have hs : args.size = 2 := by simpa [Cond.value, given_1] using g1
    obtain ⟨L⟩ := args
    match L, hs with
    | [w0, w1], _ => exact ⟨w0, w1, rfl⟩
  have hw := fun d (hd : d ∈ tables_1) => atoms_spec (ws := Jvm.Cond.code x code maxLocals ret :: tables_1) hat d (List.mem_cons_of_mem _ hd)
  obtain ⟨i0, ei0⟩ := is_v g3
  obtain rfl : w0 = (.int i0) := Option.some.inj ei0
  obtain ⟨i1, ei1⟩ := is_v g4
  obtain rfl : w1 = (.int i1) := Option.some.inj ei1
  obtain ⟨n, o, h1, h2, h3, _, L, rfl, ⟨rfl, N⟩, hq⟩ := rm0 l s _ hw i0 i1 s.heap s.heap.size (Nat.le_refl _) p e ha hc hk s m _ below hf ((Spec.applies_iff_loose hf).mp happ).1 ⟨rfl, State.Warmed39.refl s, rfl⟩ trivial
  refine ⟨n, _, h1, h2, h3, hpost _ _ _ _ _ _ ⟨Cond.after_iff.mpr rfl, Cond.after_iff.mpr (eq_i res_at (Term.int_eval (1)) rfl), trivial⟩ ⟨hq.1, hq.2.1, (hq.2.2.sift fun y hy => Or.inr (N y hy)).mono (by decide) (by decide)⟩⟩
theorem main_1_1 : Claimed_1_1 := comes_1 fun _ _ _ _ _ _ h hF => ⟨h.1, hF⟩
theorem main_1_2 : Claimed_1_2 := comes_1 fun _ _ _ _ _ _ h hF => ⟨h.2.1, hF⟩
end Jvm.Pilot.@@N@@
namespace Jvm.Pilot.@@N@@
open Jvm Jvm.ClassFile Sem Op Lib Jvm.Free Jvm.Stand Jvm.Pilot.@@N@@.Jvm.D
/-! MADE BY PROGRAM (witnessworld.py) out of the Statement's table words and the real class files: 9 classes; the members and pool entries that the words name. The judged class is class 1, her method 1. -/
namespace start1
open Jvm.ClassFile
def u (s : String) : CpInfo := .utf8 (stringToUtf16 s)
/-- a pool by its gaps: so many unusable entries, then the entry; so many at the end -/
def gap : Nat → List CpInfo → List CpInfo
  | 0, r => r
  | n + 1, r => .unusable :: gap n r
def poolList (es : List (Nat × CpInfo)) (last : Nat) : List CpInfo := es.foldr (fun e r => gap e.1 (e.2 :: r)) (gap last [])
def pool (es : List (Nat × CpInfo)) (last : Nat) : Array CpInfo := ⟨poolList es last⟩
def fileOf (pool : Array CpInfo) (this : Nat) (attrs : Array Attribute := #[]) (ms : Array MethodInfo := #[]) (fl : Nat := 33) (sup : Nat := 0) (ifs : Array Nat := #[]) (fds : Array FieldInfo := #[]) : ClassFile where
  minorVersion := 0
  majorVersion := 65
  constantPool := pool
  accessFlags := fl
  thisClass := this
  superClass := sup
  interfaces := ifs
  fields := fds
  methods := ms
  attributes := attrs
def plain (name : String) (sup : Option ClassId) : Class where
  name := name
  kind := .ordinary
  loader := none
  accessFlags := 33
  super := sup
  interfaces := #[]
  cf := none
  fields := #[]
  methods := #[]
  instanceTypes := #[]
  staticTypes := #[]
  resolved := #[]
  callSites := []
  init := .initialized
  statics := none
  mirror := none

def pool0 : Array CpInfo := pool [(5, u "<init>"), (0, u "()V"), (1, .class_ 10), (1, u "java/lang/Object")] 113

def k0m0 : Method := { name := "<init>", desc := "()V", sig := { parameters := [], returnType := none }, accessFlags := 1, code := none }
/-- java/lang/Object -/
def k0 : Class := { plain "java/lang/Object" none with
  accessFlags := 33
  interfaces := #[]
  cf := some (fileOf pool0 8 #[] #[{ accessFlags := 1, nameIndex := 5, descriptorIndex := 6, attributes := #[] }] 33 0 #[] #[])
  fields := #[]
  methods := #[k0m0]
  instanceTypes := #[]
  staticTypes := #[]
  resolved := Array.replicate 124 none
  statics := none }

def pool1 : Array CpInfo := pool [(2, .class_ 4), (1, u "java/lang/Object"), (0, u "<init>"), (0, u "()V"), (0, .integer 1073741823), (0, .methodref 9 10), (0, .class_ 11), (0, .nameAndType 12 13), (0, u "com/example/hornbeam/hornbeam/reason/RoleHierarchy"), (0, u "role"), (0, u "(IZ)I"), (0, .methodref 9 15), (0, .nameAndType 16 17), (0, u "inverse"), (0, u "(I)I"), (0, .class_ 19), (0, u "com/example/hornbeam/hornbeam/reason/RoleHierarchyRolePinLaw"), (2, u "law"), (0, u "(II)Z")] 3

def k1m0 : Method := { name := "<init>", desc := "()V", sig := { parameters := [], returnType := none }, accessFlags := 1, code := none }
def k1c1 : Code := { maxStack := 2, maxLocals := 10, code := code, exceptionTable := #[], attributes := #[] }
def k1m1 : Method := { name := "law", desc := "(II)Z", sig := { parameters := [.int, .int], returnType := some .boolean }, accessFlags := 9, code := some k1c1 }
/-- com/example/hornbeam/hornbeam/reason/RoleHierarchyRolePinLaw -/
def k1 : Class := { plain "com/example/hornbeam/hornbeam/reason/RoleHierarchyRolePinLaw" (some 0) with
  accessFlags := 49
  interfaces := #[]
  cf := some (fileOf pool1 18 #[] #[{ accessFlags := 1, nameIndex := 5, descriptorIndex := 6, attributes := #[] }, { accessFlags := 9, nameIndex := 22, descriptorIndex := 23, attributes := #[] }] 49 2 #[] #[])
  fields := #[]
  methods := #[k1m0, k1m1]
  instanceTypes := #[]
  staticTypes := #[]
  resolved := Array.replicate 27 none
  statics := none }

def pool2 : Array CpInfo := pool [(2, .class_ 4), (1, u "java/lang/Object"), (6, .class_ 13), (1, u "com/example/hornbeam/hornbeam/reason/RoleHierarchy"), (0, u "subroles"), (0, u "Ljava/util/List;"), (2, u "superroles"), (5, u "transitive"), (0, u "Ljava/util/BitSet;"), (44, u "(I)I"), (52, u "role"), (0, u "(IZ)I"), (17, u "inverse")] 28

def k2c0 : Code := { maxStack := 2, maxLocals := 2, code := prog_105_method_2_code, exceptionTable := #[], attributes := #[] }
def k2m0 : Method := { name := "role", desc := "(IZ)I", sig := { parameters := [.int, .boolean], returnType := some .int }, accessFlags := 8, code := some k2c0 }
def k2c1 : Code := { maxStack := 2, maxLocals := 1, code := prog_105_method_3_code, exceptionTable := #[], attributes := #[] }
def k2m1 : Method := { name := "inverse", desc := "(I)I", sig := { parameters := [.int], returnType := some .int }, accessFlags := 8, code := some k2c1 }
/-- com/example/hornbeam/hornbeam/reason/RoleHierarchy -/
def k2 : Class := { plain "com/example/hornbeam/hornbeam/reason/RoleHierarchy" (some 0) with
  accessFlags := 48
  interfaces := #[]
  cf := some (fileOf pool2 11 #[] #[{ accessFlags := 8, nameIndex := 123, descriptorIndex := 124, attributes := #[] }, { accessFlags := 8, nameIndex := 142, descriptorIndex := 70, attributes := #[] }] 48 2 #[] #[{ accessFlags := 18, nameIndex := 14, descriptorIndex := 15, attributes := #[] }, { accessFlags := 18, nameIndex := 18, descriptorIndex := 15, attributes := #[] }, { accessFlags := 18, nameIndex := 24, descriptorIndex := 25, attributes := #[] }])
  fields := #[{ name := "subroles", type := (.object "java/util/List"), accessFlags := 18, slot := 0, constantValue := 0 }, { name := "superroles", type := (.object "java/util/List"), accessFlags := 18, slot := 1, constantValue := 0 }, { name := "transitive", type := (.object "java/util/BitSet"), accessFlags := 18, slot := 2, constantValue := 0 }]
  methods := #[k2m0, k2m1]
  instanceTypes := #[(.object "java/util/List"), (.object "java/util/List"), (.object "java/util/BitSet")]
  staticTypes := #[]
  resolved := Array.replicate 171 none
  statics := none }

def pool3 : Array CpInfo := pool [(1, u "java/lang/Cloneable"), (0, .class_ 1), (0, u "java/lang/Object"), (0, .class_ 3)] 3

/-- java/lang/Cloneable -/
def k3 : Class := { plain "java/lang/Cloneable" (some 0) with
  accessFlags := 1537
  interfaces := #[]
  cf := some (fileOf pool3 2 #[] #[] 1537 4 #[] #[])
  fields := #[]
  methods := #[]
  instanceTypes := #[]
  staticTypes := #[]
  resolved := Array.replicate 8 none
  statics := none }

def pool4 : Array CpInfo := pool [(1, u "java/io/Serializable"), (0, .class_ 1), (0, u "java/lang/Object"), (0, .class_ 3)] 3

/-- java/io/Serializable -/
def k4 : Class := { plain "java/io/Serializable" (some 0) with
  accessFlags := 1537
  interfaces := #[]
  cf := some (fileOf pool4 2 #[] #[] 1537 4 #[] #[])
  fields := #[]
  methods := #[]
  instanceTypes := #[]
  staticTypes := #[]
  resolved := Array.replicate 8 none
  statics := none }

/-- the primitive byte -/
def k5 : Class := { plain "byte" none with kind := .primitive 'B', accessFlags := 0x411 }
/-- [B -/
def k6 : Class := { plain "[B" (some 0) with kind := .array 5 .byte, interfaces := #[3, 4], accessFlags := 1041 }

/-- the primitive int -/
def k7 : Class := { plain "int" none with kind := .primitive 'I', accessFlags := 0x411 }
/-- [I -/
def k8 : Class := { plain "[I" (some 0) with kind := .array 7 .int, interfaces := #[3, 4], accessFlags := 1041 }

def heap : Heap := #[]
def classes : Array Class := #[k0, k1, k2, k3, k4, k5, k6, k7, k8]
def interned : List (Array UInt16 × Addr) := []
def slotsUsed : Nat := 0
def theMethod : MethodId := ⟨1, 1⟩
def args0 : Array Value := #[.int 5, .int 3]
def aboutOver (below : List Frame) : State where
  vm := { classes := classes, interned := interned.toArray }
  heap := heap
  slotsUsed := slotsUsed
  threads := #[{ frames := .invoking theMethod args0 :: below }]
def below0 : List Frame := [.native { method := ⟨0, 0⟩, args := #[] }]
def about1 : State := aboutOver below0
def p0 : Program := .bare "" "" ""
def e0 : Env := launch0.env 0 0 0
theorem w_frames : about1.frames = Frame.invoking theMethod args0 :: below0 := rfl
set_option maxRecDepth 65536 in
theorem w_args : argsFit about1.vm theMethod args0 = true := by decide +kernel
set_option maxRecDepth 65536 in
theorem w_heap : heapFits about1 = true := by decide +kernel
set_option maxRecDepth 65536 in
theorem w_runnable : about1.curStatus? = some .runnable := by decide +kernel
set_option maxRecDepth 65536 in
theorem w_alone : about1.alone = true := by decide +kernel
set_option maxRecDepth 65536 in
theorem w_named : about1.methodNamed? x = some theMethod := by decide +kernel
set_option maxRecDepth 65536 in
theorem w_hears : about1.hears theMethod below0 = true := by decide +kernel
set_option maxRecDepth 65536 in
theorem w_ripe : about1.ripe theMethod args0 below0 = true := by decide +kernel
theorem w_running : about1.status = .running := rfl
set_option maxRecDepth 65536 in
theorem w_room : about1.hasRoom e0.platform room_1 = true :=
  launch0.hasRoom_least _ room_1 (by decide +kernel) (by decide +kernel) (by decide +kernel) (by decide +kernel) (by decide +kernel) (by decide +kernel)
theorem allAtoms_all (ts : List Jvm.Cond) (a : Array Jvm.Value) (st : Jvm.State) : (allAtoms ts).before a st = ts.all (fun c => c.before a st) := by
  induction ts with
  | nil => rfl
  | cons c t ih =>
    show (Jvm.Cond.and c (allAtoms t)).before a st = _
    rw [Jvm.Cond.before_and, ih, List.all_cons]
def words1 : List Jvm.Cond := Jvm.Cond.code x code maxLocals ret :: tables_1
/-- a 'code' word, met by the world's own term for the bytes: nothing is compared byte by byte -/
theorem code_word {y : MethodName} {bytes : ByteArray} {mx : Nat} {rt : Option FieldType} {a : Array Value} {s : State} {m : MethodId} {meth : Method} {c : Code} (h1 : s.methodNamed? y = some m) (h2 : s.vm.method? m = some meth) (h3 : meth.code = some c) (h4 : c.code = bytes)
    (h5 : (c.maxLocals == mx && c.exceptionTable.isEmpty && decide (c.maxStack ≤ mostOperands) && decide (meth.sig.returnType = rt) && !meth.locks && decide (parseMethodDescriptor y.desc = some meth.sig)) = true) : (Jvm.Cond.code y bytes mx rt).before a s = true := by
  simp only [Bool.and_eq_true, beq_iff_eq, Bool.not_eq_true', decide_eq_true_eq] at h5
  obtain ⟨⟨⟨⟨⟨g1, g2⟩, g3⟩, g4⟩, g5⟩, g6⟩ := h5
  simp [Cond.before, Cond.holds, Cond.value, h1, h2, h3, h4, g1, g2, g3, g4, g5, g6]
def isCode : Jvm.Cond → Bool
  | .code _ _ _ _ => true
  | _ => false
theorem all_split {L : List Jvm.Cond} {P : Jvm.Cond → Bool} (h1 : L.all (fun c => isCode c || P c) = true) (h2 : ∀ c ∈ L.filter isCode, P c = true) : L.all P = true := by
  refine List.all_eq_true.mpr fun c hc => ?_
  have h := List.all_eq_true.mp h1 c hc
  rcases Bool.eq_false_or_eq_true (isCode c) with hi | hi
  · exact h2 c (List.mem_filter.mpr ⟨hc, hi⟩)
  · simpa [hi] using h
set_option maxRecDepth 65536 in
theorem w_c0 : (Jvm.Cond.code x code maxLocals ret).before args0 about1 = true := code_word (m := ⟨1, 1⟩) (meth := k1m1) (c := k1c1) (by decide +kernel) rfl rfl rfl (by decide +kernel)
set_option maxRecDepth 65536 in
theorem w_c1 : (Jvm.Cond.code ({ cls := "com/example/hornbeam/hornbeam/reason/RoleHierarchy", name := "role", desc := "(IZ)I" } : Jvm.MethodName) prog_105_method_2_code (2 : Nat) (Option.some Jvm.ClassFile.FieldType.int)).before args0 about1 = true := code_word (m := ⟨2, 0⟩) (meth := k2m0) (c := k2c0) (by decide +kernel) rfl rfl rfl (by decide +kernel)
set_option maxRecDepth 65536 in
theorem w_c2 : (Jvm.Cond.code ({ cls := "com/example/hornbeam/hornbeam/reason/RoleHierarchy", name := "inverse", desc := "(I)I" } : Jvm.MethodName) prog_105_method_3_code (1 : Nat) (Option.some Jvm.ClassFile.FieldType.int)).before args0 about1 = true := code_word (m := ⟨2, 1⟩) (meth := k2m1) (c := k2c1) (by decide +kernel) rfl rfl rfl (by decide +kernel)
def codes1 : List Jvm.Cond := [Jvm.Cond.code x code maxLocals ret, Jvm.Cond.code ({ cls := "com/example/hornbeam/hornbeam/reason/RoleHierarchy", name := "role", desc := "(IZ)I" } : Jvm.MethodName) prog_105_method_2_code (2 : Nat) (Option.some Jvm.ClassFile.FieldType.int), Jvm.Cond.code ({ cls := "com/example/hornbeam/hornbeam/reason/RoleHierarchy", name := "inverse", desc := "(I)I" } : Jvm.MethodName) prog_105_method_3_code (1 : Nat) (Option.some Jvm.ClassFile.FieldType.int)]
set_option maxRecDepth 65536 in
theorem codes_eq : words1.filter isCode = codes1 := rfl
theorem w_codes : ∀ c ∈ words1.filter isCode, c.before args0 about1 = true := by
  rw [codes_eq]
  intro c hc
  simp only [codes1, List.mem_cons, List.not_mem_nil, or_false] at hc
  rcases hc with rfl | rfl | rfl
  · exact w_c0
  · exact w_c1
  · exact w_c2
set_option maxRecDepth 65536 in
theorem w_t1 : words1.all (fun c => isCode c || c.before args0 about1) = true := by decide +kernel
theorem w_tables : (allAtoms (Jvm.Cond.code x code maxLocals ret :: tables_1)).before args0 about1 = true := by
  rw [allAtoms_all]
  show words1.all (fun c => c.before args0 about1) = true
  refine all_split ?_ w_codes
  rw [w_t1]
set_option maxRecDepth 65536 in
theorem w_case : (Jvm.Cond.and given_1 narrow_1).before args0 about1 = true := by decide +kernel
theorem w_applies : (headSpec (Jvm.Cond.code x code maxLocals ret :: tables_1) room_1).applies x e0.platform about1 = true :=
  (Spec.applies_iff w_frames).mpr ⟨w_running, w_runnable, w_alone, w_named, w_hears, w_ripe, w_room, w_tables⟩
theorem atStart : AtStart classFile x code maxLocals ret World_1 tables_1 room_1 Calls_1 rest_1 Pre_1 launch0 p0 e0 about1 theMethod args0 below0 :=
  ⟨lists_1, trivial, launch0.admits_env _ _ _, launch0.least_env, fairChoices_fair.cas, fairChoices_fair.clock, w_frames, w_args, w_heap, w_applies, trivial, trivial, w_case⟩
end start1
theorem witness_1 : WitnessClaimed_1 := ⟨start1.p0, start1.e0, start1.about1, start1.theMethod, start1.args0, start1.below0, start1.atStart⟩
end Jvm.Pilot.@@N@@
