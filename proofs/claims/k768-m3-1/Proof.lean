import JvmDerived
import JvmDerived.Pilot.@@N@@Statement
import JvmDerived.Pilot.@@N@@Code
set_option linter.unusedVariables false
set_option linter.unusedSimpArgs false
namespace Jvm.Pilot.@@N@@
open Jvm Jvm.ClassFile Sem Op Lib Jvm.Free Jvm.Stand Jvm.LawKit Jvm.RoadKit Bundle Jvm.Pilot.@@N@@.Jvm.D
section OwnKit
variable {p : Program} {l : Launch} {e : Env} {R : Room} {s : State} {m : MethodId} {args : Array Value} {below : List Frame} {meth : Method} {c : Code} {T : State} {locs : List Loc} {cells slots : Nat} {Z : State} {a0 : Array Value} {h : Heap}
/-- from the state U on the run comes to an end of which Q holds -/
def own_Go (p : Program) (e : Env) (below : List Frame) (Q : Outcome → State → Prop) (U : State) : Prop :=
  ∃ u o, Steps p.tables e below U u ∧ u.status = .running ∧ Ended u below o ∧ Q o u
theorem own_st {Q : Outcome → State → Prop} {U V : State} (k : ∀ t, Steps p.tables e below V t → Steps p.tables e below U t) (q : own_Go p e below Q V) : own_Go p e below Q U := by
  obtain ⟨u, o, h1, h2⟩ := q
  exact ⟨u, o, k _ h1, h2⟩
theorem own_tr {Q : Outcome → State → Prop} {U V : State} (k : Steps p.tables e below U V) (q : own_Go p e below Q V) : own_Go p e below Q U := by
  obtain ⟨u, o, h1, h2⟩ := q
  exact ⟨u, o, k.trans h1, h2⟩
/-- what a body leaves, said of its end -/
abbrev own_Post (s : State) (Qc : Option Value → Heap → List Loc → Prop) (k n : Nat) : Outcome → State → Prop := fun o u => ∃ v L, o = .returned v ∧ Qc v u.heap L ∧ FrameEnd s o u L k n
theorem own_body {y : MethodName} {bytes : ByteArray} {maxL : Nat} {ret : Option FieldType} {ws : List Jvm.Cond} {rm : Room} {as' : Array Value} {h0 : Heap} {Qc : Option Value → Heap → List Loc → Prop} {k n : Nat} (hpl : plainFor y = true)
    (body : ∀ (p : Program) (e : Env) (s : State) (m : MethodId) (below : List Frame) (meth : Method) (c : Code) (s₁ : State), Stand p l e rm s m as' below meth c s₁ [] 0 0 → p.tables.exec = Jvm.exec → Z.Warmed39 s.vm → c.code = bytes → c.maxLocals = maxL → s.vm.findClass y.cls = some m.cls →
      meth.sig.returnType = ret → meth.locks = false → meth.name = y.name → s₁.heap = h0 → own_Go p e below (own_Post s Qc k n) (s₁.setTop (entryFrame m as' maxL))) :
    MetFree l y (head1 (Jvm.Cond.code y bytes maxL ret :: ws) rm) (fun a U => a = as' ∧ Z.Warmed39 U.vm ∧ U.heap = h0) (fun _ _ _ _ _ => True) (fun _ U o U' => own_Post U Qc k n o U') := by
  refine MetFree.of_bodySF hpl hisR ?_
  intro p e s m args below meth c s₁ Bd hml0 hP hK
  obtain ⟨rfl, hZ, hh⟩ := hP
  exact body p e s m below meth c s₁ (Stand.of_body Bd) Bd.exec hZ Bd.bytes hml0 (findClass_of_methodNamed Bd.named) Bd.returns Bd.notSynchronized (name_of_methodNamed Bd.named Bd.method).1 (by rw [← hh, Bd.state]; rfl)
theorem own_end {Qc : Option Value → Heap → List Loc → Prop} {k n : Nat} {v : Option Value} (X : Stand p l e R s m args below meth c T locs cells slots) (hlk : meth.locks = false) (hv : meth.sig.returnType = none → v = none) {g : JFrame}
    (hst : ∀ fs, (∀ (f : JFrame) (acts : List Action), f.method = m → f.locked = none → f.entered = [] → (doReturn e (T.setTop f) acts v).1 = T.setFrames fs) → Steps p.tables e below (T.setTop g) (T.setFrames fs))
    (hQ : Qc v T.heap locs) (hk : cells ≤ k) (hn : slots ≤ n) : own_Go p e below (own_Post s Qc k n) (T.setTop g) := by
  obtain ⟨fs, hr, hrun, hended, hW, hsame⟩ := X.leave (v := v) hv hlk
  exact ⟨_, _, hst fs hr, hrun, hended, _, _, rfl, hQ, ⟨_, rfl⟩, hW, hsame.mono hk hn⟩
theorem own_retI {Qc : Option Value → Heap → List Loc → Prop} {k n : Nat} (X : Stand p l e R s m args below meth c T locs cells slots) (hx : p.tables.exec = Jvm.exec) (hlk : meth.locks = false) (hret : meth.sig.returnType = some .int) {pc : Nat} {Ls : Array Slot} {z : Int32} {rest : List Value}
    (hd : decode c.code pc = .ok (.ireturn, 1)) (hQ : Qc (some (.int z)) T.heap locs) (hk : cells ≤ k) (hn : slots ≤ n) : own_Go p e below (own_Post s Qc k n) (T.setTop (mkF m pc Ls (.int z :: rest))) :=
  own_end X hlk (fun q => by rw [hret] at q; cases q) (fun fs hr => retOut X hx hret (w := .int z) (t := .int) rfl (Or.inl ⟨rfl, Or.inl rfl, z, rfl⟩) hd hr) hQ hk hn
theorem own_retZ {Qc : Option Value → Heap → List Loc → Prop} {k n : Nat} (X : Stand p l e R s m args below meth c T locs cells slots) (hx : p.tables.exec = Jvm.exec) (hlk : meth.locks = false) (hret : meth.sig.returnType = some .boolean) {pc : Nat} {Ls : Array Slot} {z : Int32} {rest : List Value}
    (hz : narrow .boolean (.int z) = .int z) (hd : decode c.code pc = .ok (.ireturn, 1)) (hQ : Qc (some (.int z)) T.heap locs) (hk : cells ≤ k) (hn : slots ≤ n) : own_Go p e below (own_Post s Qc k n) (T.setTop (mkF m pc Ls (.int z :: rest))) :=
  own_end X hlk (fun q => by rw [hret] at q; cases q) (fun fs hr => retOut X hx hret (w := .int z) (t := .boolean) hz (Or.inl ⟨rfl, Or.inr (Or.inl rfl), z, rfl⟩) hd hr) hQ hk hn
theorem own_retJ {Qc : Option Value → Heap → List Loc → Prop} {k n : Nat} (X : Stand p l e R s m args below meth c T locs cells slots) (hx : p.tables.exec = Jvm.exec) (hlk : meth.locks = false) (hret : meth.sig.returnType = some .long) {pc : Nat} {Ls : Array Slot} {z : Int64} {rest : List Value}
    (hd : decode c.code pc = .ok (.lreturn, 1)) (hQ : Qc (some (.long z)) T.heap locs) (hk : cells ≤ k) (hn : slots ≤ n) : own_Go p e below (own_Post s Qc k n) (T.setTop (mkF m pc Ls (.long z :: rest))) :=
  own_end X hlk (fun q => by rw [hret] at q; cases q) (fun fs hr => retOut X hx hret (w := .long z) (t := .long) rfl (Or.inr (Or.inl ⟨rfl, rfl, z, rfl⟩)) hd hr) hQ hk hn
theorem own_retA {Qc : Option Value → Heap → List Loc → Prop} {k n : Nat} (X : Stand p l e R s m args below meth c T locs cells slots) (hx : p.tables.exec = Jvm.exec) (hlk : meth.locks = false) {t : FieldType} (hret : meth.sig.returnType = some t) (ht : t.isReference = true) {pc : Nat} {Ls : Array Slot} {w : Value} (hw : w.isRef = true)
    (hd : decode c.code pc = .ok (.areturn, 1)) (hQ : Qc (some w) T.heap locs) (hk : cells ≤ k) (hn : slots ≤ n) : own_Go p e below (own_Post s Qc k n) (T.setTop (mkF m pc Ls [w])) :=
  own_end X hlk (fun q => by rw [hret] at q; cases q) (fun fs hr => X.areturnOut hx hw hret ht hd hr) hQ hk hn
theorem own_retV {Qc : Option Value → Heap → List Loc → Prop} {k n : Nat} (X : Stand p l e R s m args below meth c T locs cells slots) (hx : p.tables.exec = Jvm.exec) (hlk : meth.locks = false) (hret : meth.sig.returnType = none) {pc : Nat} {Ls : Array Slot}
    (hd : decode c.code pc = .ok (.return_, 1)) (hQ : Qc none T.heap locs) (hk : cells ≤ k) (hn : slots ≤ n) : own_Go p e below (own_Post s Qc k n) (T.setTop (mkF m pc Ls [])) :=
  own_end X hlk (fun _ => rfl) (fun fs hr => X.returnOut hx hret hd hr) hQ hk hn
/-- a callee's contract, as own_body proves it and the three calls below spend it -/
abbrev own_Met (l : Launch) (Z : State) (y : MethodName) (bytes : ByteArray) (maxL : Nat) (ret : Option FieldType) (rm : Room) (as' : Array Value) (h0 : Heap) (Qc : Option Value → Heap → List Loc → Prop) : Prop :=
  MetFree l y (head1 [Jvm.Cond.code y bytes maxL ret] rm) (fun a U => a = as' ∧ Z.Warmed39 U.vm ∧ U.heap = h0) (fun _ _ _ _ _ => True) (fun _ U o U' => own_Post U Qc rm.cells rm.slots o U')
theorem own_callS (X : Stand p l e R s m args below meth c T locs cells slots) (hx : p.tables.exec = Jvm.exec) (hZ : Z.Warmed39 s.vm) {own : String} {index : Nat} {y : MethodName} {bytes : ByteArray} {maxL : Nat} {ret : Option FieldType} {rm : Room} {Qc : Option Value → Heap → List Loc → Prop} {argsL rest : List Value} {ps : List FieldType} {W : Nat} {g : JFrame}
    (hM : own_Met l Z y bytes maxL ret rm argsL.toArray h Qc) (hown : s.vm.findClass own = some m.cls) (w1 : (Jvm.Cond.methodLink own index y).before a0 Z = true) (w2 : (Jvm.Cond.static y).before a0 Z = true) (w3 : (Jvm.Cond.initialized y.cls).before a0 Z = true) (w4 : (Jvm.Cond.code y bytes maxL ret).before a0 Z = true)
    (hy : y.cls ≠ "java/lang/invoke/MethodHandle" ∧ y.cls ≠ "java/lang/invoke/VarHandle") (eT : T.heap = h) (hg : g.method = m) (hsize : g.locals.size = c.maxLocals) (hdesc : parseMethodDescriptor y.desc = some ⟨ps, ret⟩) (hlen : argsL.length = ps.length) (hstack : g.stack = argsL.reverse ++ rest)
    (hW : 2 * g.monitorRoom + (rest.map fun v => v.category).sum ≤ W) (hdg : decode c.code g.pc = .ok (.invokestatic index, 3)) (hf : rm.frames + 1 ≤ R.frames) (hl : W + (maxL + 11) + rm.locals ≤ R.locals) (hc : cells + rm.cells ≤ R.cells) (hs : slots + rm.slots ≤ R.slots) :
    ∃ v T' L, Stand p l e R s m args below meth c T' (locs ++ L) (cells + rm.cells) (slots + rm.slots) ∧ Qc v T'.heap L ∧ ∀ target, Steps p.tables e below (T'.setTop { g with pc := g.pc + 3, stack := v.toList ++ rest }) target → Steps p.tables e below (T.setTop g) target := by
  obtain ⟨v, _, ⟨T1, L1, k1, n1⟩, -, X1, ⟨L, hQ, q1, q2, q3⟩, st⟩ := Jvm.LawKit.callS X hx (y := y) hown (mvT hZ w1) (mvT hZ w2) (mvT hZ w3) (mvT hZ w4) hy (backOf (W := W) hM hZ w4 w3 hf hl) (g := g) hg hsize (lenOf hdesc hlen) hstack hW hdg (fun _ _ => ⟨rfl, eT, hc, hs⟩)
  dsimp only [Pt.U, Pt.locs, Pt.cells, Pt.slots] at X1 q1 q2 q3 st hQ
  subst q1 q2 q3
  exact ⟨v, T1, L, X1, hQ, st⟩
theorem own_callI (X : Stand p l e R s m args below meth c T locs cells slots) (hx : p.tables.exec = Jvm.exec) (hZ : Z.Warmed39 s.vm) {own : String} {index : Nat} {y : MethodName} {bytes : ByteArray} {maxL : Nat} {rm : Room} {Qc : Option Value → Heap → List Loc → Prop} {a : Addr} {argsL rest : List Value} {ps : List FieldType} {W : Nat} {g : JFrame}
    (hM : own_Met l Z y bytes maxL none rm (.ref a :: argsL).toArray h Qc) (hn : y.name = "<init>") (hown : s.vm.findClass own = some m.cls) (w1 : (Jvm.Cond.methodLink own index y).before a0 Z = true) (w2 : (Jvm.Cond.instanceMethod y).before a0 Z = true) (w3 : (Jvm.Cond.initialized y.cls).before a0 Z = true) (w4 : (Jvm.Cond.code y bytes maxL none).before a0 Z = true)
    (hy : y.cls ≠ "java/lang/invoke/MethodHandle" ∧ y.cls ≠ "java/lang/invoke/VarHandle") (eT : T.heap = h) (hg : g.method = m) (hsize : g.locals.size = c.maxLocals) (hdesc : parseMethodDescriptor y.desc = some ⟨ps, none⟩) (hlen : argsL.length = ps.length) (hstack : g.stack = argsL.reverse ++ .ref a :: rest)
    (hW : 2 * g.monitorRoom + (rest.map fun v => v.category).sum ≤ W) (hdg : decode c.code g.pc = .ok (.invokespecial index, 3)) (hf : rm.frames + 1 ≤ R.frames) (hl : W + (maxL + 11) + rm.locals ≤ R.locals) (hc : cells + rm.cells ≤ R.cells) (hs : slots + rm.slots ≤ R.slots) :
    ∃ v T' L, Stand p l e R s m args below meth c T' (locs ++ L) (cells + rm.cells) (slots + rm.slots) ∧ Qc v T'.heap L ∧ ∀ target, Steps p.tables e below (T'.setTop { g with pc := g.pc + 3, stack := v.toList ++ rest }) target → Steps p.tables e below (T.setTop g) target := by
  obtain ⟨v, _, ⟨T1, L1, k1, n1⟩, -, X1, ⟨L, hQ, q1, q2, q3⟩, st⟩ := X.specialBack hx (y := y) hn hown (mvT hZ w1) (mvT hZ w2) (mvT hZ w4) hy (backOf (W := W) hM hZ w4 w3 hf hl) (g := g) hg hsize (Steps.refl _) (a := a) (lenOf hdesc hlen) hstack hW hdg (fun _ _ => ⟨rfl, eT, hc, hs⟩)
  dsimp only [Pt.U, Pt.locs, Pt.cells, Pt.slots] at X1 q1 q2 q3 st hQ
  subst q1 q2 q3
  exact ⟨v, T1, L, X1, hQ, fun _ q => st.trans q⟩
theorem own_callV (X : Stand p l e R s m args below meth c T locs cells slots) (hx : p.tables.exec = Jvm.exec) (hZ : Z.Warmed39 s.vm) {own : String} {index : Nat} {y : MethodName} {bytes : ByteArray} {maxL : Nat} {ret : Option FieldType} {rm : Room} {Qc : Option Value → Heap → List Loc → Prop} {a : Addr} {argsL rest : List Value} {ps : List FieldType} {W : Nat} {g : JFrame}
    (hM : own_Met l Z y bytes maxL ret rm (.ref a :: argsL).toArray h Qc) (E : Exa Z h a y.cls) (hown : s.vm.findClass own = some m.cls) (w1 : (Jvm.Cond.methodLink own index y).before a0 Z = true) (w2 : (Jvm.Cond.declares y).before a0 Z = true) (w3 : (Jvm.Cond.selects y.cls y y).before a0 Z = true) (w4 : (Jvm.Cond.instanceMethod y).before a0 Z = true) (w5 : (Jvm.Cond.initialized y.cls).before a0 Z = true) (w6 : (Jvm.Cond.code y bytes maxL ret).before a0 Z = true)
    (hy : y.cls ≠ "java/lang/invoke/MethodHandle" ∧ y.cls ≠ "java/lang/invoke/VarHandle") (eT : T.heap = h) (hg : g.method = m) (hsize : g.locals.size = c.maxLocals) (hdesc : parseMethodDescriptor y.desc = some ⟨ps, ret⟩) (hlen : argsL.length = ps.length) (hstack : g.stack = argsL.reverse ++ .ref a :: rest)
    (hW : 2 * g.monitorRoom + (rest.map fun v => v.category).sum ≤ W) (hdg : decode c.code g.pc = .ok (.invokevirtual index, 3)) (hf : rm.frames + 1 ≤ R.frames) (hl : W + (maxL + 11) + rm.locals ≤ R.locals) (hc : cells + rm.cells ≤ R.cells) (hs : slots + rm.slots ≤ R.slots) :
    ∃ v T' L, Stand p l e R s m args below meth c T' (locs ++ L) (cells + rm.cells) (slots + rm.slots) ∧ Qc v T'.heap L ∧ ∀ target, Steps p.tables e below (T'.setTop { g with pc := g.pc + 3, stack := v.toList ++ rest }) target → Steps p.tables e below (T.setTop g) target := by
  obtain ⟨cq, kq, qa, qb, qc⟩ := isOf hZ eT E
  obtain ⟨v, _, ⟨T1, L1, k1, n1⟩, -, X1, ⟨L, hQ, q1, q2, q3⟩, st⟩ := X.virtualBack hx (y := y) (z := y) hown (mvT hZ w1) (mvT hZ w2) (notFace_of_selects (args := #[]) (mvT hZ w3)) (mvT hZ w3) (mvT hZ w4) hy (backOf (W := W) hM hZ w6 w5 hf hl) qa qc (g := g) hg hsize (Steps.refl _) (lenOf hdesc hlen) hstack hW hdg (fun _ _ => ⟨rfl, eT, hc, hs⟩)
  dsimp only [Pt.U, Pt.locs, Pt.cells, Pt.slots] at X1 q1 q2 q3 st hQ
  subst q1 q2 q3
  exact ⟨v, T1, L, X1, hQ, fun _ q => st.trans q⟩
/-- what a body that writes nothing leaves -/
abbrev own_P (v : Option Value) (h : Heap) : Option Value → Heap → List Loc → Prop := fun w h' L => w = v ∧ L = [] ∧ h' = h
theorem own_flat (X : Stand p l e R s m args below meth c T (locs ++ []) (cells + 0) (slots + 0)) : Stand p l e R s m args below meth c T locs cells slots := by
  rw [List.append_nil] at X
  exact X
def own_c32 : ClassFile.Cond → Int32 → Int32 → Bool
  | .lt, x, y => decide (x < y)
  | .ge, x, y => !decide (x < y)
  | .gt, x, y => decide (y < x)
  | .le, x, y => !decide (y < x)
  | .eq, x, y => decide (x = y)
  | .ne, x, y => !decide (x = y)
def own_c64 : ClassFile.Cond → Int64 → Int64 → Bool
  | .lt, x, y => decide (x < y)
  | .ge, x, y => !decide (x < y)
  | .gt, x, y => decide (y < x)
  | .le, x, y => !decide (y < x)
  | .eq, x, y => decide (x = y)
  | .ne, x, y => !decide (x = y)
theorem own_yes {P : Prop} [Decidable P] (q : P) : decide P = true := decide_eq_true q
theorem own_no {P : Prop} [Decidable P] (q : ¬ P) : decide P = false := decide_eq_false q
theorem own_nyes {P : Prop} [Decidable P] (q : P) : (!decide P) = false := by rw [decide_eq_true q]; rfl
theorem own_nno {P : Prop} [Decidable P] (q : ¬ P) : (!decide P) = true := by rw [decide_eq_false q]; rfl
theorem own_i2 (cd : ClassFile.Cond) (x y : Int32) : if_icmp.holds cd x y = own_c32 cd x y := by
  cases cd
  case lt => by_cases q : x < y; · exact (tlt q).1.trans (own_yes q).symm
             · exact (flt q).1.trans (own_no q).symm
  case ge => by_cases q : x < y; · exact (tlt q).2.1.trans (own_nyes q).symm
             · exact (flt q).2.1.trans (own_nno q).symm
  case gt => by_cases q : y < x; · exact (tlt q).2.2.1.trans (own_yes q).symm
             · exact (flt q).2.2.1.trans (own_no q).symm
  case le => by_cases q : y < x; · exact (tlt q).2.2.2.trans (own_nyes q).symm
             · exact (flt q).2.2.2.trans (own_nno q).symm
  case eq => by_cases q : x = y; · exact (teq q).1.trans (own_yes q).symm
             · exact (feq q).1.trans (own_no q).symm
  case ne => by_cases q : x = y; · exact (teq q).2.trans (own_nyes q).symm
             · exact (feq q).2.trans (own_nno q).symm
theorem own_i0 (cd : ClassFile.Cond) (x : Int32) : ifCond.holds cd x = own_c32 cd x 0 := (if0 cd x).trans (own_i2 cd x 0)
theorem own_l0 (cd : ClassFile.Cond) (x y : Int64) : ifCond.holds cd (lcmpW x y) = own_c64 cd x y := by
  rw [own_i0]
  have q1 := lw_lt x y
  have q2 := lw_gt x y
  have q3 := lw_eq x y
  cases cd <;> simp only [own_c32, own_c64, q1, q2, q3]
theorem own_ldI {a : Addr} {k : ClassId} {z j : Int32} {vs : List Value} {dv : Value} (F : Arv Z h a k .int z vs dv) (q : ¬ j < 0 ∧ j < z) : ∃ (cl : Cell) (v : Int32), Arr Z h a cl .int ∧ ¬ (j < 0 ∨ cl.slots.size ≤ j.toNatClampNeg) ∧ cl.slots[j.toNatClampNeg]? = some (.int v) := by
  obtain ⟨cl, A, -, S, M, H, G⟩ := F
  have hin := inb_of S q
  have hlt : j.toNatClampNeg < cl.slots.size := Nat.lt_of_not_le fun y => hin (Or.inr y)
  obtain ⟨v, hv⟩ := fit_I (G _ hlt) (Or.inl rfl)
  exact ⟨cl, v, A, hin, by rw [H _ hlt, hv]⟩
theorem own_len {a : Addr} {k : ClassId} {ty : FieldType} {z : Int32} {vs : List Value} {dv : Value} (F : Arv Z h a k ty z vs dv) : ∃ cl : Cell, Arr Z h a cl ty ∧ cl.slots.size = z.toNatClampNeg ∧ ¬ z < 0 := by
  obtain ⟨cl, A, -, S, M, -, -⟩ := F
  exact ⟨cl, A, S, M⟩
theorem own_at {a : Addr} {k : ClassId} {ty : FieldType} {z j : Int32} {vs : List Value} {dv : Value} (F : Arv Z h a k ty z vs dv) (q : ¬ j < 0 ∧ j < z) {i : Nat} (hj : j.toNatClampNeg = i) {v : Value} (hv : vs.getD i dv = v) : ∃ cl : Cell, Arr Z h a cl ty ∧ ¬ (j < 0 ∨ cl.slots.size ≤ j.toNatClampNeg) ∧ cl.slots[j.toNatClampNeg]? = some v := by
  obtain ⟨cl, A, -, S, M, H, -⟩ := F
  have hin := inb_of S q
  have hlt : j.toNatClampNeg < cl.slots.size := Nat.lt_of_not_le fun y => hin (Or.inr y)
  refine ⟨cl, A, hin, ?_⟩
  rw [H _ hlt, hj, hv]
end OwnKit

theorem pd_0 : parseMethodDescriptor "(I)Z" = some ⟨[.int], some .boolean⟩ := by decide +kernel
theorem pd_1 : parseMethodDescriptor "(III)Z" = some ⟨[.int, .int, .int], some .boolean⟩ := by decide +kernel
def own_in_14 (p0 : Int32) (p1 : Int32) (p2 : Int32) : Int32 := (0 : Int32)
def own_in_0 (p0 : Int32) (p1 : Int32) (p2 : Int32) : Int32 := (if p0 < p1 then (own_in_14 p0 p1 p2) else (if p2 < p0 then (own_in_14 p0 p1 p2) else (1 : Int32)))
theorem d4_0 : decode method_2_code 0 = .ok (.iload_n 0, 1) := by decide +kernel
theorem d4_1 : decode method_2_code 1 = .ok (.iload_n 1, 1) := by decide +kernel
theorem d4_2 : decode method_2_code 2 = .ok (.if_icmp .lt 12, 3) := by decide +kernel
theorem d4_5 : decode method_2_code 5 = .ok (.iload_n 0, 1) := by decide +kernel
theorem d4_6 : decode method_2_code 6 = .ok (.iload_n 2, 1) := by decide +kernel
theorem d4_7 : decode method_2_code 7 = .ok (.if_icmp .gt 7, 3) := by decide +kernel
theorem d4_10 : decode method_2_code 10 = .ok (.iconst 1, 1) := by decide +kernel
theorem d4_11 : decode method_2_code 11 = .ok (.goto 4, 3) := by decide +kernel
theorem d4_14 : decode method_2_code 14 = .ok (.iconst 0, 1) := by decide +kernel
theorem d4_15 : decode method_2_code 15 = .ok (.ireturn, 1) := by decide +kernel
theorem pn_4 : plainFor (⟨"com/example/hornbeam/hornbeam/rdf/NameCharactersIsPnCharsPinLaw", "in", "(III)Z"⟩ : MethodName) = true := plainFor_of_name (by first | (simp [plainName, overriddenIn]; done) | decide +kernel)
theorem ef_4 (m : MethodId) (x0 : Int32) (x1 : Int32) (x2 : Int32) : entryFrame m #[(.int x0), (.int x1), (.int x2)] 3 = mkF m 0 #[.val (.int x0), .val (.int x1), .val (.int x2)] [] := by first | (simp [entryFrame, mkF, argsToLocals, Value.category]; done) | rfl
set_option maxRecDepth 65536 in
set_option maxHeartbeats 40000000 in
theorem rm4 (l : Launch) (Z : State) (tA : Array Value) (hw : ∀ d ∈ tables_1, d.before tA Z = true) (p0 : Int32) (p1 : Int32) (p2 : Int32) (h0 : Heap) :
    own_Met l Z (⟨"com/example/hornbeam/hornbeam/rdf/NameCharactersIsPnCharsPinLaw", "in", "(III)Z"⟩ : MethodName) method_2_code 3 (some .boolean) ({ frames := 0, cells := 0, slots := 0, locals := 0 } : Room) #[(.int p0), (.int p1), (.int p2)] h0 (own_P (some (.int (own_in_0 p0 p1 p2))) h0) := by
  refine own_body pn_4 ?_
  intro p e s m below meth c s₁ X0 hx hZ hby hml hown hret hlk hnm e0
  have B14 : ∀ (T0 : State), Stand p l e ({ frames := 0, cells := 0, slots := 0, locals := 0 } : Room) s m #[(.int p0), (.int p1), (.int p2)] below meth c T0 [] 0 0 → T0.heap = h0 → own_in_14 p0 p1 p2 = own_in_0 p0 p1 p2 → own_Go p e below (own_Post s (own_P (some (.int (own_in_0 p0 p1 p2))) h0) ({ frames := 0, cells := 0, slots := 0, locals := 0 } : Room).cells ({ frames := 0, cells := 0, slots := 0, locals := 0 } : Room).slots) (T0.setTop (mkF m 14 #[.val (.int p0), .val (.int p1), .val (.int p2)] [])) := by
    intro T0 X0 e0 hbk
    show own_Go p e below _ (T0.setTop (mkF m 14 #[.val (.int p0), .val (.int p1), .val (.int p2)] []))
    refine own_st (fun _ k => XS.iconst X0.here hx rfl (hb hby d4_14) k) ?_
    show own_Go p e below _ (T0.setTop (mkF m 15 #[.val (.int p0), .val (.int p1), .val (.int p2)] [(.int (0 : Int32))]))
    exact own_retZ X0 hx hlk hret rfl (hb hby d4_15) ⟨congrArg (fun z => some (Value.int z)) ((show own_in_14 p0 p1 p2 = (0 : Int32) from rfl).symm.trans hbk), rfl, e0⟩ (by decide) (by decide)
  have B0 : ∀ (T0 : State), Stand p l e ({ frames := 0, cells := 0, slots := 0, locals := 0 } : Room) s m #[(.int p0), (.int p1), (.int p2)] below meth c T0 [] 0 0 → T0.heap = h0 → own_in_0 p0 p1 p2 = own_in_0 p0 p1 p2 → own_Go p e below (own_Post s (own_P (some (.int (own_in_0 p0 p1 p2))) h0) ({ frames := 0, cells := 0, slots := 0, locals := 0 } : Room).cells ({ frames := 0, cells := 0, slots := 0, locals := 0 } : Room).slots) (T0.setTop (mkF m 0 #[.val (.int p0), .val (.int p1), .val (.int p2)] [])) := by
    intro T0 X0 e0 hbk
    show own_Go p e below _ (T0.setTop (mkF m 0 #[.val (.int p0), .val (.int p1), .val (.int p2)] []))
    refine own_st (fun _ k => XS.iloadN X0.here hx rfl (hb hby d4_0) rfl k) ?_
    show own_Go p e below _ (T0.setTop (mkF m 1 #[.val (.int p0), .val (.int p1), .val (.int p2)] [(.int p0)]))
    refine own_st (fun _ k => XS.iloadN X0.here hx rfl (hb hby d4_1) rfl k) ?_
    show own_Go p e below _ (T0.setTop (mkF m 2 #[.val (.int p0), .val (.int p1), .val (.int p2)] [(.int p1), (.int p0)]))
    by_cases hc2 : p0 < p1
    · refine own_st (fun _ k => XS.icmpYes X0.here hx rfl (pc0 := 2) (pc' := 14) rfl (hb hby d4_2) rfl ((own_i2 _ _ _).trans (own_yes (hc2 : p0 < p1))) (by decide) (by decide) k) ?_
      show own_Go p e below _ (T0.setTop (mkF m 14 #[.val (.int p0), .val (.int p1), .val (.int p2)] []))
      exact B14 T0 X0 e0 ((show own_in_0 p0 p1 p2 = own_in_14 p0 p1 p2 from (if_pos hc2)).symm.trans hbk)
    · refine own_st (fun _ k => XS.icmpNo X0.here hx rfl (hb hby d4_2) rfl ((own_i2 _ _ _).trans (own_no (hc2 : ¬ (p0 < p1)))) k) ?_
      show own_Go p e below _ (T0.setTop (mkF m 5 #[.val (.int p0), .val (.int p1), .val (.int p2)] []))
      refine own_st (fun _ k => XS.iloadN X0.here hx rfl (hb hby d4_5) rfl k) ?_
      show own_Go p e below _ (T0.setTop (mkF m 6 #[.val (.int p0), .val (.int p1), .val (.int p2)] [(.int p0)]))
      refine own_st (fun _ k => XS.iloadN X0.here hx rfl (hb hby d4_6) rfl k) ?_
      show own_Go p e below _ (T0.setTop (mkF m 7 #[.val (.int p0), .val (.int p1), .val (.int p2)] [(.int p2), (.int p0)]))
      by_cases hc7 : p2 < p0
      · refine own_st (fun _ k => XS.icmpYes X0.here hx rfl (pc0 := 7) (pc' := 14) rfl (hb hby d4_7) rfl ((own_i2 _ _ _).trans (own_yes (hc7 : p2 < p0))) (by decide) (by decide) k) ?_
        show own_Go p e below _ (T0.setTop (mkF m 14 #[.val (.int p0), .val (.int p1), .val (.int p2)] []))
        exact B14 T0 X0 e0 ((show own_in_0 p0 p1 p2 = own_in_14 p0 p1 p2 from ((if_neg hc2)).trans ((if_pos hc7))).symm.trans hbk)
      · refine own_st (fun _ k => XS.icmpNo X0.here hx rfl (hb hby d4_7) rfl ((own_i2 _ _ _).trans (own_no (hc7 : ¬ (p2 < p0)))) k) ?_
        show own_Go p e below _ (T0.setTop (mkF m 10 #[.val (.int p0), .val (.int p1), .val (.int p2)] []))
        refine own_st (fun _ k => XS.iconst X0.here hx rfl (hb hby d4_10) k) ?_
        show own_Go p e below _ (T0.setTop (mkF m 11 #[.val (.int p0), .val (.int p1), .val (.int p2)] [(.int (1 : Int32))]))
        refine own_st (fun _ k => XS.goto X0.here hx rfl (pc0 := 11) (pc' := 15) rfl (hb hby d4_11) (by decide) (by decide) k) ?_
        show own_Go p e below _ (T0.setTop (mkF m 15 #[.val (.int p0), .val (.int p1), .val (.int p2)] [(.int (1 : Int32))]))
        exact own_retZ X0 hx hlk hret rfl (hb hby d4_15) ⟨congrArg (fun z => some (Value.int z)) ((show own_in_0 p0 p1 p2 = (1 : Int32) from ((if_neg hc2)).trans ((if_neg hc7))).symm.trans hbk), rfl, e0⟩ (by decide) (by decide)
  rw [ef_4]
  exact B0 _ X0 e0 rfl
def own_b_189 (p0 : Int32) : Int32 := (0 : Int32)
def own_b_185 (p0 : Int32) : Int32 := (1 : Int32)
def own_b_173 (p0 : Int32) : Int32 := (if p0 < (65536 : Int32) then (own_b_189 p0) else (if (983039 : Int32) < p0 then (own_b_189 p0) else (own_b_185 p0)))
def own_b_161 (p0 : Int32) : Int32 := (if p0 < (65008 : Int32) then (own_b_173 p0) else (if (65533 : Int32) < p0 then (own_b_173 p0) else (own_b_185 p0)))
def own_b_149 (p0 : Int32) : Int32 := (if p0 < (63744 : Int32) then (own_b_161 p0) else (if (64975 : Int32) < p0 then (own_b_161 p0) else (own_b_185 p0)))
def own_b_136 (p0 : Int32) : Int32 := (if p0 < (12289 : Int32) then (own_b_149 p0) else (if (55295 : Int32) < p0 then (own_b_149 p0) else (own_b_185 p0)))
def own_b_122 (p0 : Int32) : Int32 := (if p0 < (11264 : Int32) then (own_b_136 p0) else (if (12271 : Int32) < p0 then (own_b_136 p0) else (own_b_185 p0)))
def own_b_108 (p0 : Int32) : Int32 := (if p0 < (8304 : Int32) then (own_b_122 p0) else (if (8591 : Int32) < p0 then (own_b_122 p0) else (own_b_185 p0)))
def own_b_94 (p0 : Int32) : Int32 := (if p0 < (8204 : Int32) then (own_b_108 p0) else (if (8205 : Int32) < p0 then (own_b_108 p0) else (own_b_185 p0)))
def own_b_80 (p0 : Int32) : Int32 := (if p0 < (895 : Int32) then (own_b_94 p0) else (if (8191 : Int32) < p0 then (own_b_94 p0) else (own_b_185 p0)))
def own_b_66 (p0 : Int32) : Int32 := (if p0 < (880 : Int32) then (own_b_80 p0) else (if (893 : Int32) < p0 then (own_b_80 p0) else (own_b_185 p0)))
def own_b_52 (p0 : Int32) : Int32 := (if p0 < (248 : Int32) then (own_b_66 p0) else (if (767 : Int32) < p0 then (own_b_66 p0) else (own_b_185 p0)))
def own_b_38 (p0 : Int32) : Int32 := (if p0 < (216 : Int32) then (own_b_52 p0) else (if (246 : Int32) < p0 then (own_b_52 p0) else (own_b_185 p0)))
def own_b_24 (p0 : Int32) : Int32 := (if p0 < (192 : Int32) then (own_b_38 p0) else (if (214 : Int32) < p0 then (own_b_38 p0) else (own_b_185 p0)))
def own_b_12 (p0 : Int32) : Int32 := (if p0 < (65 : Int32) then (own_b_24 p0) else (if (90 : Int32) < p0 then (own_b_24 p0) else (own_b_185 p0)))
def own_b_0 (p0 : Int32) : Int32 := (if p0 < (97 : Int32) then (own_b_12 p0) else (if (122 : Int32) < p0 then (own_b_12 p0) else (own_b_185 p0)))
theorem d2_0 : decode prog_63_method_2_code 0 = .ok (.iload_n 0, 1) := by decide +kernel
theorem d2_1 : decode prog_63_method_2_code 1 = .ok (.bipush 97, 2) := by decide +kernel
theorem d2_3 : decode prog_63_method_2_code 3 = .ok (.if_icmp .lt 9, 3) := by decide +kernel
theorem d2_6 : decode prog_63_method_2_code 6 = .ok (.iload_n 0, 1) := by decide +kernel
theorem d2_7 : decode prog_63_method_2_code 7 = .ok (.bipush 122, 2) := by decide +kernel
theorem d2_9 : decode prog_63_method_2_code 9 = .ok (.if_icmp .le 176, 3) := by decide +kernel
theorem d2_12 : decode prog_63_method_2_code 12 = .ok (.iload_n 0, 1) := by decide +kernel
theorem d2_13 : decode prog_63_method_2_code 13 = .ok (.bipush 65, 2) := by decide +kernel
theorem d2_15 : decode prog_63_method_2_code 15 = .ok (.if_icmp .lt 9, 3) := by decide +kernel
theorem d2_18 : decode prog_63_method_2_code 18 = .ok (.iload_n 0, 1) := by decide +kernel
theorem d2_19 : decode prog_63_method_2_code 19 = .ok (.bipush 90, 2) := by decide +kernel
theorem d2_21 : decode prog_63_method_2_code 21 = .ok (.if_icmp .le 164, 3) := by decide +kernel
theorem d2_24 : decode prog_63_method_2_code 24 = .ok (.iload_n 0, 1) := by decide +kernel
theorem d2_25 : decode prog_63_method_2_code 25 = .ok (.sipush 192, 3) := by decide +kernel
theorem d2_28 : decode prog_63_method_2_code 28 = .ok (.if_icmp .lt 10, 3) := by decide +kernel
theorem d2_31 : decode prog_63_method_2_code 31 = .ok (.iload_n 0, 1) := by decide +kernel
theorem d2_32 : decode prog_63_method_2_code 32 = .ok (.sipush 214, 3) := by decide +kernel
theorem d2_35 : decode prog_63_method_2_code 35 = .ok (.if_icmp .le 150, 3) := by decide +kernel
theorem d2_38 : decode prog_63_method_2_code 38 = .ok (.iload_n 0, 1) := by decide +kernel
theorem d2_39 : decode prog_63_method_2_code 39 = .ok (.sipush 216, 3) := by decide +kernel
theorem d2_42 : decode prog_63_method_2_code 42 = .ok (.if_icmp .lt 10, 3) := by decide +kernel
theorem d2_45 : decode prog_63_method_2_code 45 = .ok (.iload_n 0, 1) := by decide +kernel
theorem d2_46 : decode prog_63_method_2_code 46 = .ok (.sipush 246, 3) := by decide +kernel
theorem d2_49 : decode prog_63_method_2_code 49 = .ok (.if_icmp .le 136, 3) := by decide +kernel
theorem d2_52 : decode prog_63_method_2_code 52 = .ok (.iload_n 0, 1) := by decide +kernel
theorem d2_53 : decode prog_63_method_2_code 53 = .ok (.sipush 248, 3) := by decide +kernel
theorem d2_56 : decode prog_63_method_2_code 56 = .ok (.if_icmp .lt 10, 3) := by decide +kernel
theorem d2_59 : decode prog_63_method_2_code 59 = .ok (.iload_n 0, 1) := by decide +kernel
theorem d2_60 : decode prog_63_method_2_code 60 = .ok (.sipush 767, 3) := by decide +kernel
theorem d2_63 : decode prog_63_method_2_code 63 = .ok (.if_icmp .le 122, 3) := by decide +kernel
theorem d2_66 : decode prog_63_method_2_code 66 = .ok (.iload_n 0, 1) := by decide +kernel
theorem d2_67 : decode prog_63_method_2_code 67 = .ok (.sipush 880, 3) := by decide +kernel
theorem d2_70 : decode prog_63_method_2_code 70 = .ok (.if_icmp .lt 10, 3) := by decide +kernel
theorem d2_73 : decode prog_63_method_2_code 73 = .ok (.iload_n 0, 1) := by decide +kernel
theorem d2_74 : decode prog_63_method_2_code 74 = .ok (.sipush 893, 3) := by decide +kernel
theorem d2_77 : decode prog_63_method_2_code 77 = .ok (.if_icmp .le 108, 3) := by decide +kernel
theorem d2_80 : decode prog_63_method_2_code 80 = .ok (.iload_n 0, 1) := by decide +kernel
theorem d2_81 : decode prog_63_method_2_code 81 = .ok (.sipush 895, 3) := by decide +kernel
theorem d2_84 : decode prog_63_method_2_code 84 = .ok (.if_icmp .lt 10, 3) := by decide +kernel
theorem d2_87 : decode prog_63_method_2_code 87 = .ok (.iload_n 0, 1) := by decide +kernel
theorem d2_88 : decode prog_63_method_2_code 88 = .ok (.sipush 8191, 3) := by decide +kernel
theorem d2_91 : decode prog_63_method_2_code 91 = .ok (.if_icmp .le 94, 3) := by decide +kernel
theorem d2_94 : decode prog_63_method_2_code 94 = .ok (.iload_n 0, 1) := by decide +kernel
theorem d2_95 : decode prog_63_method_2_code 95 = .ok (.sipush 8204, 3) := by decide +kernel
theorem d2_98 : decode prog_63_method_2_code 98 = .ok (.if_icmp .lt 10, 3) := by decide +kernel
theorem d2_101 : decode prog_63_method_2_code 101 = .ok (.iload_n 0, 1) := by decide +kernel
theorem d2_102 : decode prog_63_method_2_code 102 = .ok (.sipush 8205, 3) := by decide +kernel
theorem d2_105 : decode prog_63_method_2_code 105 = .ok (.if_icmp .le 80, 3) := by decide +kernel
theorem d2_108 : decode prog_63_method_2_code 108 = .ok (.iload_n 0, 1) := by decide +kernel
theorem d2_109 : decode prog_63_method_2_code 109 = .ok (.sipush 8304, 3) := by decide +kernel
theorem d2_112 : decode prog_63_method_2_code 112 = .ok (.if_icmp .lt 10, 3) := by decide +kernel
theorem d2_115 : decode prog_63_method_2_code 115 = .ok (.iload_n 0, 1) := by decide +kernel
theorem d2_116 : decode prog_63_method_2_code 116 = .ok (.sipush 8591, 3) := by decide +kernel
theorem d2_119 : decode prog_63_method_2_code 119 = .ok (.if_icmp .le 66, 3) := by decide +kernel
theorem d2_122 : decode prog_63_method_2_code 122 = .ok (.iload_n 0, 1) := by decide +kernel
theorem d2_123 : decode prog_63_method_2_code 123 = .ok (.sipush 11264, 3) := by decide +kernel
theorem d2_126 : decode prog_63_method_2_code 126 = .ok (.if_icmp .lt 10, 3) := by decide +kernel
theorem d2_129 : decode prog_63_method_2_code 129 = .ok (.iload_n 0, 1) := by decide +kernel
theorem d2_130 : decode prog_63_method_2_code 130 = .ok (.sipush 12271, 3) := by decide +kernel
theorem d2_133 : decode prog_63_method_2_code 133 = .ok (.if_icmp .le 52, 3) := by decide +kernel
theorem d2_136 : decode prog_63_method_2_code 136 = .ok (.iload_n 0, 1) := by decide +kernel
theorem d2_137 : decode prog_63_method_2_code 137 = .ok (.sipush 12289, 3) := by decide +kernel
theorem d2_140 : decode prog_63_method_2_code 140 = .ok (.if_icmp .lt 9, 3) := by decide +kernel
theorem d2_143 : decode prog_63_method_2_code 143 = .ok (.iload_n 0, 1) := by decide +kernel
theorem d2_144 : decode prog_63_method_2_code 144 = .ok (.ldc 7, 2) := by decide +kernel
theorem d2_146 : decode prog_63_method_2_code 146 = .ok (.if_icmp .le 39, 3) := by decide +kernel
theorem d2_149 : decode prog_63_method_2_code 149 = .ok (.iload_n 0, 1) := by decide +kernel
theorem d2_150 : decode prog_63_method_2_code 150 = .ok (.ldc 8, 2) := by decide +kernel
theorem d2_152 : decode prog_63_method_2_code 152 = .ok (.if_icmp .lt 9, 3) := by decide +kernel
theorem d2_155 : decode prog_63_method_2_code 155 = .ok (.iload_n 0, 1) := by decide +kernel
theorem d2_156 : decode prog_63_method_2_code 156 = .ok (.ldc 9, 2) := by decide +kernel
theorem d2_158 : decode prog_63_method_2_code 158 = .ok (.if_icmp .le 27, 3) := by decide +kernel
theorem d2_161 : decode prog_63_method_2_code 161 = .ok (.iload_n 0, 1) := by decide +kernel
theorem d2_162 : decode prog_63_method_2_code 162 = .ok (.ldc 10, 2) := by decide +kernel
theorem d2_164 : decode prog_63_method_2_code 164 = .ok (.if_icmp .lt 9, 3) := by decide +kernel
theorem d2_167 : decode prog_63_method_2_code 167 = .ok (.iload_n 0, 1) := by decide +kernel
theorem d2_168 : decode prog_63_method_2_code 168 = .ok (.ldc 11, 2) := by decide +kernel
theorem d2_170 : decode prog_63_method_2_code 170 = .ok (.if_icmp .le 15, 3) := by decide +kernel
theorem d2_173 : decode prog_63_method_2_code 173 = .ok (.iload_n 0, 1) := by decide +kernel
theorem d2_174 : decode prog_63_method_2_code 174 = .ok (.ldc 12, 2) := by decide +kernel
theorem d2_176 : decode prog_63_method_2_code 176 = .ok (.if_icmp .lt 13, 3) := by decide +kernel
theorem d2_179 : decode prog_63_method_2_code 179 = .ok (.iload_n 0, 1) := by decide +kernel
theorem d2_180 : decode prog_63_method_2_code 180 = .ok (.ldc 13, 2) := by decide +kernel
theorem d2_182 : decode prog_63_method_2_code 182 = .ok (.if_icmp .gt 7, 3) := by decide +kernel
theorem d2_185 : decode prog_63_method_2_code 185 = .ok (.iconst 1, 1) := by decide +kernel
theorem d2_186 : decode prog_63_method_2_code 186 = .ok (.goto 4, 3) := by decide +kernel
theorem d2_189 : decode prog_63_method_2_code 189 = .ok (.iconst 0, 1) := by decide +kernel
theorem d2_190 : decode prog_63_method_2_code 190 = .ok (.ireturn, 1) := by decide +kernel
theorem pn_2 : plainFor (⟨"com/example/hornbeam/hornbeam/rdf/NameCharacters", "isPnCharsBase", "(I)Z"⟩ : MethodName) = true := plainFor_of_name (by first | (simp [plainName, overriddenIn]; done) | decide +kernel)
theorem ef_2 (m : MethodId) (x0 : Int32) : entryFrame m #[(.int x0)] 1 = mkF m 0 #[.val (.int x0)] [] := by first | (simp [entryFrame, mkF, argsToLocals, Value.category]; done) | rfl
set_option maxRecDepth 65536 in
set_option maxHeartbeats 40000000 in
theorem rm2 (l : Launch) (Z : State) (tA : Array Value) (hw : ∀ d ∈ tables_1, d.before tA Z = true) (p0 : Int32) (h0 : Heap) :
    own_Met l Z (⟨"com/example/hornbeam/hornbeam/rdf/NameCharacters", "isPnCharsBase", "(I)Z"⟩ : MethodName) prog_63_method_2_code 1 (some .boolean) ({ frames := 0, cells := 0, slots := 0, locals := 0 } : Room) #[(.int p0)] h0 (own_P (some (.int (own_b_0 p0))) h0) := by
  refine own_body pn_2 ?_
  intro p e s m below meth c s₁ X0 hx hZ hby hml hown hret hlk hnm e0
  have B189 : ∀ (T0 : State), Stand p l e ({ frames := 0, cells := 0, slots := 0, locals := 0 } : Room) s m #[(.int p0)] below meth c T0 [] 0 0 → T0.heap = h0 → own_b_189 p0 = own_b_0 p0 → own_Go p e below (own_Post s (own_P (some (.int (own_b_0 p0))) h0) ({ frames := 0, cells := 0, slots := 0, locals := 0 } : Room).cells ({ frames := 0, cells := 0, slots := 0, locals := 0 } : Room).slots) (T0.setTop (mkF m 189 #[.val (.int p0)] [])) := by
    intro T0 X0 e0 hbk
    show own_Go p e below _ (T0.setTop (mkF m 189 #[.val (.int p0)] []))
    refine own_st (fun _ k => XS.iconst X0.here hx rfl (hb hby d2_189) k) ?_
    show own_Go p e below _ (T0.setTop (mkF m 190 #[.val (.int p0)] [(.int (0 : Int32))]))
    exact own_retZ X0 hx hlk hret rfl (hb hby d2_190) ⟨congrArg (fun z => some (Value.int z)) ((show own_b_189 p0 = (0 : Int32) from rfl).symm.trans hbk), rfl, e0⟩ (by decide) (by decide)
  have B185 : ∀ (T0 : State), Stand p l e ({ frames := 0, cells := 0, slots := 0, locals := 0 } : Room) s m #[(.int p0)] below meth c T0 [] 0 0 → T0.heap = h0 → own_b_185 p0 = own_b_0 p0 → own_Go p e below (own_Post s (own_P (some (.int (own_b_0 p0))) h0) ({ frames := 0, cells := 0, slots := 0, locals := 0 } : Room).cells ({ frames := 0, cells := 0, slots := 0, locals := 0 } : Room).slots) (T0.setTop (mkF m 185 #[.val (.int p0)] [])) := by
    intro T0 X0 e0 hbk
    show own_Go p e below _ (T0.setTop (mkF m 185 #[.val (.int p0)] []))
    refine own_st (fun _ k => XS.iconst X0.here hx rfl (hb hby d2_185) k) ?_
    show own_Go p e below _ (T0.setTop (mkF m 186 #[.val (.int p0)] [(.int (1 : Int32))]))
    refine own_st (fun _ k => XS.goto X0.here hx rfl (pc0 := 186) (pc' := 190) rfl (hb hby d2_186) (by decide) (by decide) k) ?_
    show own_Go p e below _ (T0.setTop (mkF m 190 #[.val (.int p0)] [(.int (1 : Int32))]))
    exact own_retZ X0 hx hlk hret rfl (hb hby d2_190) ⟨congrArg (fun z => some (Value.int z)) ((show own_b_185 p0 = (1 : Int32) from rfl).symm.trans hbk), rfl, e0⟩ (by decide) (by decide)
  have B173 : ∀ (T0 : State), Stand p l e ({ frames := 0, cells := 0, slots := 0, locals := 0 } : Room) s m #[(.int p0)] below meth c T0 [] 0 0 → T0.heap = h0 → own_b_173 p0 = own_b_0 p0 → own_Go p e below (own_Post s (own_P (some (.int (own_b_0 p0))) h0) ({ frames := 0, cells := 0, slots := 0, locals := 0 } : Room).cells ({ frames := 0, cells := 0, slots := 0, locals := 0 } : Room).slots) (T0.setTop (mkF m 173 #[.val (.int p0)] [])) := by
    intro T0 X0 e0 hbk
    show own_Go p e below _ (T0.setTop (mkF m 173 #[.val (.int p0)] []))
    refine own_st (fun _ k => XS.iloadN X0.here hx rfl (hb hby d2_173) rfl k) ?_
    show own_Go p e below _ (T0.setTop (mkF m 174 #[.val (.int p0)] [(.int p0)]))
    refine own_st (fun _ k => X0.ldcInt hx hown (mvT hZ (hw _ (List.mem_of_getElem? (i := 18) rfl))) (g := (mkF m 174 #[.val (.int p0)] [(.int p0)])) rfl (hb hby d2_174) _ k) ?_
    show own_Go p e below _ (T0.setTop (mkF m 176 #[.val (.int p0)] [(.int (65536 : Int32)), (.int p0)]))
    by_cases hc176 : p0 < (65536 : Int32)
    · refine own_st (fun _ k => XS.icmpYes X0.here hx rfl (pc0 := 176) (pc' := 189) rfl (hb hby d2_176) rfl ((own_i2 _ _ _).trans (own_yes (hc176 : p0 < (65536 : Int32)))) (by decide) (by decide) k) ?_
      show own_Go p e below _ (T0.setTop (mkF m 189 #[.val (.int p0)] []))
      exact B189 T0 X0 e0 ((show own_b_173 p0 = own_b_189 p0 from (if_pos hc176)).symm.trans hbk)
    · refine own_st (fun _ k => XS.icmpNo X0.here hx rfl (hb hby d2_176) rfl ((own_i2 _ _ _).trans (own_no (hc176 : ¬ (p0 < (65536 : Int32))))) k) ?_
      show own_Go p e below _ (T0.setTop (mkF m 179 #[.val (.int p0)] []))
      refine own_st (fun _ k => XS.iloadN X0.here hx rfl (hb hby d2_179) rfl k) ?_
      show own_Go p e below _ (T0.setTop (mkF m 180 #[.val (.int p0)] [(.int p0)]))
      refine own_st (fun _ k => X0.ldcInt hx hown (mvT hZ (hw _ (List.mem_of_getElem? (i := 29) rfl))) (g := (mkF m 180 #[.val (.int p0)] [(.int p0)])) rfl (hb hby d2_180) _ k) ?_
      show own_Go p e below _ (T0.setTop (mkF m 182 #[.val (.int p0)] [(.int (983039 : Int32)), (.int p0)]))
      by_cases hc182 : (983039 : Int32) < p0
      · refine own_st (fun _ k => XS.icmpYes X0.here hx rfl (pc0 := 182) (pc' := 189) rfl (hb hby d2_182) rfl ((own_i2 _ _ _).trans (own_yes (hc182 : (983039 : Int32) < p0))) (by decide) (by decide) k) ?_
        show own_Go p e below _ (T0.setTop (mkF m 189 #[.val (.int p0)] []))
        exact B189 T0 X0 e0 ((show own_b_173 p0 = own_b_189 p0 from ((if_neg hc176)).trans ((if_pos hc182))).symm.trans hbk)
      · refine own_st (fun _ k => XS.icmpNo X0.here hx rfl (hb hby d2_182) rfl ((own_i2 _ _ _).trans (own_no (hc182 : ¬ ((983039 : Int32) < p0)))) k) ?_
        show own_Go p e below _ (T0.setTop (mkF m 185 #[.val (.int p0)] []))
        exact B185 T0 X0 e0 ((show own_b_173 p0 = own_b_185 p0 from ((if_neg hc176)).trans ((if_neg hc182))).symm.trans hbk)
  have B161 : ∀ (T0 : State), Stand p l e ({ frames := 0, cells := 0, slots := 0, locals := 0 } : Room) s m #[(.int p0)] below meth c T0 [] 0 0 → T0.heap = h0 → own_b_161 p0 = own_b_0 p0 → own_Go p e below (own_Post s (own_P (some (.int (own_b_0 p0))) h0) ({ frames := 0, cells := 0, slots := 0, locals := 0 } : Room).cells ({ frames := 0, cells := 0, slots := 0, locals := 0 } : Room).slots) (T0.setTop (mkF m 161 #[.val (.int p0)] [])) := by
    intro T0 X0 e0 hbk
    show own_Go p e below _ (T0.setTop (mkF m 161 #[.val (.int p0)] []))
    refine own_st (fun _ k => XS.iloadN X0.here hx rfl (hb hby d2_161) rfl k) ?_
    show own_Go p e below _ (T0.setTop (mkF m 162 #[.val (.int p0)] [(.int p0)]))
    refine own_st (fun _ k => X0.ldcInt hx hown (mvT hZ (hw _ (List.mem_of_getElem? (i := 17) rfl))) (g := (mkF m 162 #[.val (.int p0)] [(.int p0)])) rfl (hb hby d2_162) _ k) ?_
    show own_Go p e below _ (T0.setTop (mkF m 164 #[.val (.int p0)] [(.int (65008 : Int32)), (.int p0)]))
    by_cases hc164 : p0 < (65008 : Int32)
    · refine own_st (fun _ k => XS.icmpYes X0.here hx rfl (pc0 := 164) (pc' := 173) rfl (hb hby d2_164) rfl ((own_i2 _ _ _).trans (own_yes (hc164 : p0 < (65008 : Int32)))) (by decide) (by decide) k) ?_
      show own_Go p e below _ (T0.setTop (mkF m 173 #[.val (.int p0)] []))
      exact B173 T0 X0 e0 ((show own_b_161 p0 = own_b_173 p0 from (if_pos hc164)).symm.trans hbk)
    · refine own_st (fun _ k => XS.icmpNo X0.here hx rfl (hb hby d2_164) rfl ((own_i2 _ _ _).trans (own_no (hc164 : ¬ (p0 < (65008 : Int32))))) k) ?_
      show own_Go p e below _ (T0.setTop (mkF m 167 #[.val (.int p0)] []))
      refine own_st (fun _ k => XS.iloadN X0.here hx rfl (hb hby d2_167) rfl k) ?_
      show own_Go p e below _ (T0.setTop (mkF m 168 #[.val (.int p0)] [(.int p0)]))
      refine own_st (fun _ k => X0.ldcInt hx hown (mvT hZ (hw _ (List.mem_of_getElem? (i := 28) rfl))) (g := (mkF m 168 #[.val (.int p0)] [(.int p0)])) rfl (hb hby d2_168) _ k) ?_
      show own_Go p e below _ (T0.setTop (mkF m 170 #[.val (.int p0)] [(.int (65533 : Int32)), (.int p0)]))
      by_cases hc170 : (65533 : Int32) < p0
      · refine own_st (fun _ k => XS.icmpNo X0.here hx rfl (hb hby d2_170) rfl ((own_i2 _ _ _).trans (own_nyes (hc170 : (65533 : Int32) < p0))) k) ?_
        show own_Go p e below _ (T0.setTop (mkF m 173 #[.val (.int p0)] []))
        exact B173 T0 X0 e0 ((show own_b_161 p0 = own_b_173 p0 from ((if_neg hc164)).trans ((if_pos hc170))).symm.trans hbk)
      · refine own_st (fun _ k => XS.icmpYes X0.here hx rfl (pc0 := 170) (pc' := 185) rfl (hb hby d2_170) rfl ((own_i2 _ _ _).trans (own_nno (hc170 : ¬ ((65533 : Int32) < p0)))) (by decide) (by decide) k) ?_
        show own_Go p e below _ (T0.setTop (mkF m 185 #[.val (.int p0)] []))
        exact B185 T0 X0 e0 ((show own_b_161 p0 = own_b_185 p0 from ((if_neg hc164)).trans ((if_neg hc170))).symm.trans hbk)
  have B149 : ∀ (T0 : State), Stand p l e ({ frames := 0, cells := 0, slots := 0, locals := 0 } : Room) s m #[(.int p0)] below meth c T0 [] 0 0 → T0.heap = h0 → own_b_149 p0 = own_b_0 p0 → own_Go p e below (own_Post s (own_P (some (.int (own_b_0 p0))) h0) ({ frames := 0, cells := 0, slots := 0, locals := 0 } : Room).cells ({ frames := 0, cells := 0, slots := 0, locals := 0 } : Room).slots) (T0.setTop (mkF m 149 #[.val (.int p0)] [])) := by
    intro T0 X0 e0 hbk
    show own_Go p e below _ (T0.setTop (mkF m 149 #[.val (.int p0)] []))
    refine own_st (fun _ k => XS.iloadN X0.here hx rfl (hb hby d2_149) rfl k) ?_
    show own_Go p e below _ (T0.setTop (mkF m 150 #[.val (.int p0)] [(.int p0)]))
    refine own_st (fun _ k => X0.ldcInt hx hown (mvT hZ (hw _ (List.mem_of_getElem? (i := 16) rfl))) (g := (mkF m 150 #[.val (.int p0)] [(.int p0)])) rfl (hb hby d2_150) _ k) ?_
    show own_Go p e below _ (T0.setTop (mkF m 152 #[.val (.int p0)] [(.int (63744 : Int32)), (.int p0)]))
    by_cases hc152 : p0 < (63744 : Int32)
    · refine own_st (fun _ k => XS.icmpYes X0.here hx rfl (pc0 := 152) (pc' := 161) rfl (hb hby d2_152) rfl ((own_i2 _ _ _).trans (own_yes (hc152 : p0 < (63744 : Int32)))) (by decide) (by decide) k) ?_
      show own_Go p e below _ (T0.setTop (mkF m 161 #[.val (.int p0)] []))
      exact B161 T0 X0 e0 ((show own_b_149 p0 = own_b_161 p0 from (if_pos hc152)).symm.trans hbk)
    · refine own_st (fun _ k => XS.icmpNo X0.here hx rfl (hb hby d2_152) rfl ((own_i2 _ _ _).trans (own_no (hc152 : ¬ (p0 < (63744 : Int32))))) k) ?_
      show own_Go p e below _ (T0.setTop (mkF m 155 #[.val (.int p0)] []))
      refine own_st (fun _ k => XS.iloadN X0.here hx rfl (hb hby d2_155) rfl k) ?_
      show own_Go p e below _ (T0.setTop (mkF m 156 #[.val (.int p0)] [(.int p0)]))
      refine own_st (fun _ k => X0.ldcInt hx hown (mvT hZ (hw _ (List.mem_of_getElem? (i := 27) rfl))) (g := (mkF m 156 #[.val (.int p0)] [(.int p0)])) rfl (hb hby d2_156) _ k) ?_
      show own_Go p e below _ (T0.setTop (mkF m 158 #[.val (.int p0)] [(.int (64975 : Int32)), (.int p0)]))
      by_cases hc158 : (64975 : Int32) < p0
      · refine own_st (fun _ k => XS.icmpNo X0.here hx rfl (hb hby d2_158) rfl ((own_i2 _ _ _).trans (own_nyes (hc158 : (64975 : Int32) < p0))) k) ?_
        show own_Go p e below _ (T0.setTop (mkF m 161 #[.val (.int p0)] []))
        exact B161 T0 X0 e0 ((show own_b_149 p0 = own_b_161 p0 from ((if_neg hc152)).trans ((if_pos hc158))).symm.trans hbk)
      · refine own_st (fun _ k => XS.icmpYes X0.here hx rfl (pc0 := 158) (pc' := 185) rfl (hb hby d2_158) rfl ((own_i2 _ _ _).trans (own_nno (hc158 : ¬ ((64975 : Int32) < p0)))) (by decide) (by decide) k) ?_
        show own_Go p e below _ (T0.setTop (mkF m 185 #[.val (.int p0)] []))
        exact B185 T0 X0 e0 ((show own_b_149 p0 = own_b_185 p0 from ((if_neg hc152)).trans ((if_neg hc158))).symm.trans hbk)
  have B136 : ∀ (T0 : State), Stand p l e ({ frames := 0, cells := 0, slots := 0, locals := 0 } : Room) s m #[(.int p0)] below meth c T0 [] 0 0 → T0.heap = h0 → own_b_136 p0 = own_b_0 p0 → own_Go p e below (own_Post s (own_P (some (.int (own_b_0 p0))) h0) ({ frames := 0, cells := 0, slots := 0, locals := 0 } : Room).cells ({ frames := 0, cells := 0, slots := 0, locals := 0 } : Room).slots) (T0.setTop (mkF m 136 #[.val (.int p0)] [])) := by
    intro T0 X0 e0 hbk
    show own_Go p e below _ (T0.setTop (mkF m 136 #[.val (.int p0)] []))
    refine own_st (fun _ k => XS.iloadN X0.here hx rfl (hb hby d2_136) rfl k) ?_
    show own_Go p e below _ (T0.setTop (mkF m 137 #[.val (.int p0)] [(.int p0)]))
    refine own_st (fun _ k => XS.sipush X0.here hx rfl (hb hby d2_137) k) ?_
    show own_Go p e below _ (T0.setTop (mkF m 140 #[.val (.int p0)] [(.int (12289 : Int32)), (.int p0)]))
    by_cases hc140 : p0 < (12289 : Int32)
    · refine own_st (fun _ k => XS.icmpYes X0.here hx rfl (pc0 := 140) (pc' := 149) rfl (hb hby d2_140) rfl ((own_i2 _ _ _).trans (own_yes (hc140 : p0 < (12289 : Int32)))) (by decide) (by decide) k) ?_
      show own_Go p e below _ (T0.setTop (mkF m 149 #[.val (.int p0)] []))
      exact B149 T0 X0 e0 ((show own_b_136 p0 = own_b_149 p0 from (if_pos hc140)).symm.trans hbk)
    · refine own_st (fun _ k => XS.icmpNo X0.here hx rfl (hb hby d2_140) rfl ((own_i2 _ _ _).trans (own_no (hc140 : ¬ (p0 < (12289 : Int32))))) k) ?_
      show own_Go p e below _ (T0.setTop (mkF m 143 #[.val (.int p0)] []))
      refine own_st (fun _ k => XS.iloadN X0.here hx rfl (hb hby d2_143) rfl k) ?_
      show own_Go p e below _ (T0.setTop (mkF m 144 #[.val (.int p0)] [(.int p0)]))
      refine own_st (fun _ k => X0.ldcInt hx hown (mvT hZ (hw _ (List.mem_of_getElem? (i := 26) rfl))) (g := (mkF m 144 #[.val (.int p0)] [(.int p0)])) rfl (hb hby d2_144) _ k) ?_
      show own_Go p e below _ (T0.setTop (mkF m 146 #[.val (.int p0)] [(.int (55295 : Int32)), (.int p0)]))
      by_cases hc146 : (55295 : Int32) < p0
      · refine own_st (fun _ k => XS.icmpNo X0.here hx rfl (hb hby d2_146) rfl ((own_i2 _ _ _).trans (own_nyes (hc146 : (55295 : Int32) < p0))) k) ?_
        show own_Go p e below _ (T0.setTop (mkF m 149 #[.val (.int p0)] []))
        exact B149 T0 X0 e0 ((show own_b_136 p0 = own_b_149 p0 from ((if_neg hc140)).trans ((if_pos hc146))).symm.trans hbk)
      · refine own_st (fun _ k => XS.icmpYes X0.here hx rfl (pc0 := 146) (pc' := 185) rfl (hb hby d2_146) rfl ((own_i2 _ _ _).trans (own_nno (hc146 : ¬ ((55295 : Int32) < p0)))) (by decide) (by decide) k) ?_
        show own_Go p e below _ (T0.setTop (mkF m 185 #[.val (.int p0)] []))
        exact B185 T0 X0 e0 ((show own_b_136 p0 = own_b_185 p0 from ((if_neg hc140)).trans ((if_neg hc146))).symm.trans hbk)
  have B122 : ∀ (T0 : State), Stand p l e ({ frames := 0, cells := 0, slots := 0, locals := 0 } : Room) s m #[(.int p0)] below meth c T0 [] 0 0 → T0.heap = h0 → own_b_122 p0 = own_b_0 p0 → own_Go p e below (own_Post s (own_P (some (.int (own_b_0 p0))) h0) ({ frames := 0, cells := 0, slots := 0, locals := 0 } : Room).cells ({ frames := 0, cells := 0, slots := 0, locals := 0 } : Room).slots) (T0.setTop (mkF m 122 #[.val (.int p0)] [])) := by
    intro T0 X0 e0 hbk
    show own_Go p e below _ (T0.setTop (mkF m 122 #[.val (.int p0)] []))
    refine own_st (fun _ k => XS.iloadN X0.here hx rfl (hb hby d2_122) rfl k) ?_
    show own_Go p e below _ (T0.setTop (mkF m 123 #[.val (.int p0)] [(.int p0)]))
    refine own_st (fun _ k => XS.sipush X0.here hx rfl (hb hby d2_123) k) ?_
    show own_Go p e below _ (T0.setTop (mkF m 126 #[.val (.int p0)] [(.int (11264 : Int32)), (.int p0)]))
    by_cases hc126 : p0 < (11264 : Int32)
    · refine own_st (fun _ k => XS.icmpYes X0.here hx rfl (pc0 := 126) (pc' := 136) rfl (hb hby d2_126) rfl ((own_i2 _ _ _).trans (own_yes (hc126 : p0 < (11264 : Int32)))) (by decide) (by decide) k) ?_
      show own_Go p e below _ (T0.setTop (mkF m 136 #[.val (.int p0)] []))
      exact B136 T0 X0 e0 ((show own_b_122 p0 = own_b_136 p0 from (if_pos hc126)).symm.trans hbk)
    · refine own_st (fun _ k => XS.icmpNo X0.here hx rfl (hb hby d2_126) rfl ((own_i2 _ _ _).trans (own_no (hc126 : ¬ (p0 < (11264 : Int32))))) k) ?_
      show own_Go p e below _ (T0.setTop (mkF m 129 #[.val (.int p0)] []))
      refine own_st (fun _ k => XS.iloadN X0.here hx rfl (hb hby d2_129) rfl k) ?_
      show own_Go p e below _ (T0.setTop (mkF m 130 #[.val (.int p0)] [(.int p0)]))
      refine own_st (fun _ k => XS.sipush X0.here hx rfl (hb hby d2_130) k) ?_
      show own_Go p e below _ (T0.setTop (mkF m 133 #[.val (.int p0)] [(.int (12271 : Int32)), (.int p0)]))
      by_cases hc133 : (12271 : Int32) < p0
      · refine own_st (fun _ k => XS.icmpNo X0.here hx rfl (hb hby d2_133) rfl ((own_i2 _ _ _).trans (own_nyes (hc133 : (12271 : Int32) < p0))) k) ?_
        show own_Go p e below _ (T0.setTop (mkF m 136 #[.val (.int p0)] []))
        exact B136 T0 X0 e0 ((show own_b_122 p0 = own_b_136 p0 from ((if_neg hc126)).trans ((if_pos hc133))).symm.trans hbk)
      · refine own_st (fun _ k => XS.icmpYes X0.here hx rfl (pc0 := 133) (pc' := 185) rfl (hb hby d2_133) rfl ((own_i2 _ _ _).trans (own_nno (hc133 : ¬ ((12271 : Int32) < p0)))) (by decide) (by decide) k) ?_
        show own_Go p e below _ (T0.setTop (mkF m 185 #[.val (.int p0)] []))
        exact B185 T0 X0 e0 ((show own_b_122 p0 = own_b_185 p0 from ((if_neg hc126)).trans ((if_neg hc133))).symm.trans hbk)
  have B108 : ∀ (T0 : State), Stand p l e ({ frames := 0, cells := 0, slots := 0, locals := 0 } : Room) s m #[(.int p0)] below meth c T0 [] 0 0 → T0.heap = h0 → own_b_108 p0 = own_b_0 p0 → own_Go p e below (own_Post s (own_P (some (.int (own_b_0 p0))) h0) ({ frames := 0, cells := 0, slots := 0, locals := 0 } : Room).cells ({ frames := 0, cells := 0, slots := 0, locals := 0 } : Room).slots) (T0.setTop (mkF m 108 #[.val (.int p0)] [])) := by
    intro T0 X0 e0 hbk
    show own_Go p e below _ (T0.setTop (mkF m 108 #[.val (.int p0)] []))
    refine own_st (fun _ k => XS.iloadN X0.here hx rfl (hb hby d2_108) rfl k) ?_
    show own_Go p e below _ (T0.setTop (mkF m 109 #[.val (.int p0)] [(.int p0)]))
    refine own_st (fun _ k => XS.sipush X0.here hx rfl (hb hby d2_109) k) ?_
    show own_Go p e below _ (T0.setTop (mkF m 112 #[.val (.int p0)] [(.int (8304 : Int32)), (.int p0)]))
    by_cases hc112 : p0 < (8304 : Int32)
    · refine own_st (fun _ k => XS.icmpYes X0.here hx rfl (pc0 := 112) (pc' := 122) rfl (hb hby d2_112) rfl ((own_i2 _ _ _).trans (own_yes (hc112 : p0 < (8304 : Int32)))) (by decide) (by decide) k) ?_
      show own_Go p e below _ (T0.setTop (mkF m 122 #[.val (.int p0)] []))
      exact B122 T0 X0 e0 ((show own_b_108 p0 = own_b_122 p0 from (if_pos hc112)).symm.trans hbk)
    · refine own_st (fun _ k => XS.icmpNo X0.here hx rfl (hb hby d2_112) rfl ((own_i2 _ _ _).trans (own_no (hc112 : ¬ (p0 < (8304 : Int32))))) k) ?_
      show own_Go p e below _ (T0.setTop (mkF m 115 #[.val (.int p0)] []))
      refine own_st (fun _ k => XS.iloadN X0.here hx rfl (hb hby d2_115) rfl k) ?_
      show own_Go p e below _ (T0.setTop (mkF m 116 #[.val (.int p0)] [(.int p0)]))
      refine own_st (fun _ k => XS.sipush X0.here hx rfl (hb hby d2_116) k) ?_
      show own_Go p e below _ (T0.setTop (mkF m 119 #[.val (.int p0)] [(.int (8591 : Int32)), (.int p0)]))
      by_cases hc119 : (8591 : Int32) < p0
      · refine own_st (fun _ k => XS.icmpNo X0.here hx rfl (hb hby d2_119) rfl ((own_i2 _ _ _).trans (own_nyes (hc119 : (8591 : Int32) < p0))) k) ?_
        show own_Go p e below _ (T0.setTop (mkF m 122 #[.val (.int p0)] []))
        exact B122 T0 X0 e0 ((show own_b_108 p0 = own_b_122 p0 from ((if_neg hc112)).trans ((if_pos hc119))).symm.trans hbk)
      · refine own_st (fun _ k => XS.icmpYes X0.here hx rfl (pc0 := 119) (pc' := 185) rfl (hb hby d2_119) rfl ((own_i2 _ _ _).trans (own_nno (hc119 : ¬ ((8591 : Int32) < p0)))) (by decide) (by decide) k) ?_
        show own_Go p e below _ (T0.setTop (mkF m 185 #[.val (.int p0)] []))
        exact B185 T0 X0 e0 ((show own_b_108 p0 = own_b_185 p0 from ((if_neg hc112)).trans ((if_neg hc119))).symm.trans hbk)
  have B94 : ∀ (T0 : State), Stand p l e ({ frames := 0, cells := 0, slots := 0, locals := 0 } : Room) s m #[(.int p0)] below meth c T0 [] 0 0 → T0.heap = h0 → own_b_94 p0 = own_b_0 p0 → own_Go p e below (own_Post s (own_P (some (.int (own_b_0 p0))) h0) ({ frames := 0, cells := 0, slots := 0, locals := 0 } : Room).cells ({ frames := 0, cells := 0, slots := 0, locals := 0 } : Room).slots) (T0.setTop (mkF m 94 #[.val (.int p0)] [])) := by
    intro T0 X0 e0 hbk
    show own_Go p e below _ (T0.setTop (mkF m 94 #[.val (.int p0)] []))
    refine own_st (fun _ k => XS.iloadN X0.here hx rfl (hb hby d2_94) rfl k) ?_
    show own_Go p e below _ (T0.setTop (mkF m 95 #[.val (.int p0)] [(.int p0)]))
    refine own_st (fun _ k => XS.sipush X0.here hx rfl (hb hby d2_95) k) ?_
    show own_Go p e below _ (T0.setTop (mkF m 98 #[.val (.int p0)] [(.int (8204 : Int32)), (.int p0)]))
    by_cases hc98 : p0 < (8204 : Int32)
    · refine own_st (fun _ k => XS.icmpYes X0.here hx rfl (pc0 := 98) (pc' := 108) rfl (hb hby d2_98) rfl ((own_i2 _ _ _).trans (own_yes (hc98 : p0 < (8204 : Int32)))) (by decide) (by decide) k) ?_
      show own_Go p e below _ (T0.setTop (mkF m 108 #[.val (.int p0)] []))
      exact B108 T0 X0 e0 ((show own_b_94 p0 = own_b_108 p0 from (if_pos hc98)).symm.trans hbk)
    · refine own_st (fun _ k => XS.icmpNo X0.here hx rfl (hb hby d2_98) rfl ((own_i2 _ _ _).trans (own_no (hc98 : ¬ (p0 < (8204 : Int32))))) k) ?_
      show own_Go p e below _ (T0.setTop (mkF m 101 #[.val (.int p0)] []))
      refine own_st (fun _ k => XS.iloadN X0.here hx rfl (hb hby d2_101) rfl k) ?_
      show own_Go p e below _ (T0.setTop (mkF m 102 #[.val (.int p0)] [(.int p0)]))
      refine own_st (fun _ k => XS.sipush X0.here hx rfl (hb hby d2_102) k) ?_
      show own_Go p e below _ (T0.setTop (mkF m 105 #[.val (.int p0)] [(.int (8205 : Int32)), (.int p0)]))
      by_cases hc105 : (8205 : Int32) < p0
      · refine own_st (fun _ k => XS.icmpNo X0.here hx rfl (hb hby d2_105) rfl ((own_i2 _ _ _).trans (own_nyes (hc105 : (8205 : Int32) < p0))) k) ?_
        show own_Go p e below _ (T0.setTop (mkF m 108 #[.val (.int p0)] []))
        exact B108 T0 X0 e0 ((show own_b_94 p0 = own_b_108 p0 from ((if_neg hc98)).trans ((if_pos hc105))).symm.trans hbk)
      · refine own_st (fun _ k => XS.icmpYes X0.here hx rfl (pc0 := 105) (pc' := 185) rfl (hb hby d2_105) rfl ((own_i2 _ _ _).trans (own_nno (hc105 : ¬ ((8205 : Int32) < p0)))) (by decide) (by decide) k) ?_
        show own_Go p e below _ (T0.setTop (mkF m 185 #[.val (.int p0)] []))
        exact B185 T0 X0 e0 ((show own_b_94 p0 = own_b_185 p0 from ((if_neg hc98)).trans ((if_neg hc105))).symm.trans hbk)
  have B80 : ∀ (T0 : State), Stand p l e ({ frames := 0, cells := 0, slots := 0, locals := 0 } : Room) s m #[(.int p0)] below meth c T0 [] 0 0 → T0.heap = h0 → own_b_80 p0 = own_b_0 p0 → own_Go p e below (own_Post s (own_P (some (.int (own_b_0 p0))) h0) ({ frames := 0, cells := 0, slots := 0, locals := 0 } : Room).cells ({ frames := 0, cells := 0, slots := 0, locals := 0 } : Room).slots) (T0.setTop (mkF m 80 #[.val (.int p0)] [])) := by
    intro T0 X0 e0 hbk
    show own_Go p e below _ (T0.setTop (mkF m 80 #[.val (.int p0)] []))
    refine own_st (fun _ k => XS.iloadN X0.here hx rfl (hb hby d2_80) rfl k) ?_
    show own_Go p e below _ (T0.setTop (mkF m 81 #[.val (.int p0)] [(.int p0)]))
    refine own_st (fun _ k => XS.sipush X0.here hx rfl (hb hby d2_81) k) ?_
    show own_Go p e below _ (T0.setTop (mkF m 84 #[.val (.int p0)] [(.int (895 : Int32)), (.int p0)]))
    by_cases hc84 : p0 < (895 : Int32)
    · refine own_st (fun _ k => XS.icmpYes X0.here hx rfl (pc0 := 84) (pc' := 94) rfl (hb hby d2_84) rfl ((own_i2 _ _ _).trans (own_yes (hc84 : p0 < (895 : Int32)))) (by decide) (by decide) k) ?_
      show own_Go p e below _ (T0.setTop (mkF m 94 #[.val (.int p0)] []))
      exact B94 T0 X0 e0 ((show own_b_80 p0 = own_b_94 p0 from (if_pos hc84)).symm.trans hbk)
    · refine own_st (fun _ k => XS.icmpNo X0.here hx rfl (hb hby d2_84) rfl ((own_i2 _ _ _).trans (own_no (hc84 : ¬ (p0 < (895 : Int32))))) k) ?_
      show own_Go p e below _ (T0.setTop (mkF m 87 #[.val (.int p0)] []))
      refine own_st (fun _ k => XS.iloadN X0.here hx rfl (hb hby d2_87) rfl k) ?_
      show own_Go p e below _ (T0.setTop (mkF m 88 #[.val (.int p0)] [(.int p0)]))
      refine own_st (fun _ k => XS.sipush X0.here hx rfl (hb hby d2_88) k) ?_
      show own_Go p e below _ (T0.setTop (mkF m 91 #[.val (.int p0)] [(.int (8191 : Int32)), (.int p0)]))
      by_cases hc91 : (8191 : Int32) < p0
      · refine own_st (fun _ k => XS.icmpNo X0.here hx rfl (hb hby d2_91) rfl ((own_i2 _ _ _).trans (own_nyes (hc91 : (8191 : Int32) < p0))) k) ?_
        show own_Go p e below _ (T0.setTop (mkF m 94 #[.val (.int p0)] []))
        exact B94 T0 X0 e0 ((show own_b_80 p0 = own_b_94 p0 from ((if_neg hc84)).trans ((if_pos hc91))).symm.trans hbk)
      · refine own_st (fun _ k => XS.icmpYes X0.here hx rfl (pc0 := 91) (pc' := 185) rfl (hb hby d2_91) rfl ((own_i2 _ _ _).trans (own_nno (hc91 : ¬ ((8191 : Int32) < p0)))) (by decide) (by decide) k) ?_
        show own_Go p e below _ (T0.setTop (mkF m 185 #[.val (.int p0)] []))
        exact B185 T0 X0 e0 ((show own_b_80 p0 = own_b_185 p0 from ((if_neg hc84)).trans ((if_neg hc91))).symm.trans hbk)
  have B66 : ∀ (T0 : State), Stand p l e ({ frames := 0, cells := 0, slots := 0, locals := 0 } : Room) s m #[(.int p0)] below meth c T0 [] 0 0 → T0.heap = h0 → own_b_66 p0 = own_b_0 p0 → own_Go p e below (own_Post s (own_P (some (.int (own_b_0 p0))) h0) ({ frames := 0, cells := 0, slots := 0, locals := 0 } : Room).cells ({ frames := 0, cells := 0, slots := 0, locals := 0 } : Room).slots) (T0.setTop (mkF m 66 #[.val (.int p0)] [])) := by
    intro T0 X0 e0 hbk
    show own_Go p e below _ (T0.setTop (mkF m 66 #[.val (.int p0)] []))
    refine own_st (fun _ k => XS.iloadN X0.here hx rfl (hb hby d2_66) rfl k) ?_
    show own_Go p e below _ (T0.setTop (mkF m 67 #[.val (.int p0)] [(.int p0)]))
    refine own_st (fun _ k => XS.sipush X0.here hx rfl (hb hby d2_67) k) ?_
    show own_Go p e below _ (T0.setTop (mkF m 70 #[.val (.int p0)] [(.int (880 : Int32)), (.int p0)]))
    by_cases hc70 : p0 < (880 : Int32)
    · refine own_st (fun _ k => XS.icmpYes X0.here hx rfl (pc0 := 70) (pc' := 80) rfl (hb hby d2_70) rfl ((own_i2 _ _ _).trans (own_yes (hc70 : p0 < (880 : Int32)))) (by decide) (by decide) k) ?_
      show own_Go p e below _ (T0.setTop (mkF m 80 #[.val (.int p0)] []))
      exact B80 T0 X0 e0 ((show own_b_66 p0 = own_b_80 p0 from (if_pos hc70)).symm.trans hbk)
    · refine own_st (fun _ k => XS.icmpNo X0.here hx rfl (hb hby d2_70) rfl ((own_i2 _ _ _).trans (own_no (hc70 : ¬ (p0 < (880 : Int32))))) k) ?_
      show own_Go p e below _ (T0.setTop (mkF m 73 #[.val (.int p0)] []))
      refine own_st (fun _ k => XS.iloadN X0.here hx rfl (hb hby d2_73) rfl k) ?_
      show own_Go p e below _ (T0.setTop (mkF m 74 #[.val (.int p0)] [(.int p0)]))
      refine own_st (fun _ k => XS.sipush X0.here hx rfl (hb hby d2_74) k) ?_
      show own_Go p e below _ (T0.setTop (mkF m 77 #[.val (.int p0)] [(.int (893 : Int32)), (.int p0)]))
      by_cases hc77 : (893 : Int32) < p0
      · refine own_st (fun _ k => XS.icmpNo X0.here hx rfl (hb hby d2_77) rfl ((own_i2 _ _ _).trans (own_nyes (hc77 : (893 : Int32) < p0))) k) ?_
        show own_Go p e below _ (T0.setTop (mkF m 80 #[.val (.int p0)] []))
        exact B80 T0 X0 e0 ((show own_b_66 p0 = own_b_80 p0 from ((if_neg hc70)).trans ((if_pos hc77))).symm.trans hbk)
      · refine own_st (fun _ k => XS.icmpYes X0.here hx rfl (pc0 := 77) (pc' := 185) rfl (hb hby d2_77) rfl ((own_i2 _ _ _).trans (own_nno (hc77 : ¬ ((893 : Int32) < p0)))) (by decide) (by decide) k) ?_
        show own_Go p e below _ (T0.setTop (mkF m 185 #[.val (.int p0)] []))
        exact B185 T0 X0 e0 ((show own_b_66 p0 = own_b_185 p0 from ((if_neg hc70)).trans ((if_neg hc77))).symm.trans hbk)
  have B52 : ∀ (T0 : State), Stand p l e ({ frames := 0, cells := 0, slots := 0, locals := 0 } : Room) s m #[(.int p0)] below meth c T0 [] 0 0 → T0.heap = h0 → own_b_52 p0 = own_b_0 p0 → own_Go p e below (own_Post s (own_P (some (.int (own_b_0 p0))) h0) ({ frames := 0, cells := 0, slots := 0, locals := 0 } : Room).cells ({ frames := 0, cells := 0, slots := 0, locals := 0 } : Room).slots) (T0.setTop (mkF m 52 #[.val (.int p0)] [])) := by
    intro T0 X0 e0 hbk
    show own_Go p e below _ (T0.setTop (mkF m 52 #[.val (.int p0)] []))
    refine own_st (fun _ k => XS.iloadN X0.here hx rfl (hb hby d2_52) rfl k) ?_
    show own_Go p e below _ (T0.setTop (mkF m 53 #[.val (.int p0)] [(.int p0)]))
    refine own_st (fun _ k => XS.sipush X0.here hx rfl (hb hby d2_53) k) ?_
    show own_Go p e below _ (T0.setTop (mkF m 56 #[.val (.int p0)] [(.int (248 : Int32)), (.int p0)]))
    by_cases hc56 : p0 < (248 : Int32)
    · refine own_st (fun _ k => XS.icmpYes X0.here hx rfl (pc0 := 56) (pc' := 66) rfl (hb hby d2_56) rfl ((own_i2 _ _ _).trans (own_yes (hc56 : p0 < (248 : Int32)))) (by decide) (by decide) k) ?_
      show own_Go p e below _ (T0.setTop (mkF m 66 #[.val (.int p0)] []))
      exact B66 T0 X0 e0 ((show own_b_52 p0 = own_b_66 p0 from (if_pos hc56)).symm.trans hbk)
    · refine own_st (fun _ k => XS.icmpNo X0.here hx rfl (hb hby d2_56) rfl ((own_i2 _ _ _).trans (own_no (hc56 : ¬ (p0 < (248 : Int32))))) k) ?_
      show own_Go p e below _ (T0.setTop (mkF m 59 #[.val (.int p0)] []))
      refine own_st (fun _ k => XS.iloadN X0.here hx rfl (hb hby d2_59) rfl k) ?_
      show own_Go p e below _ (T0.setTop (mkF m 60 #[.val (.int p0)] [(.int p0)]))
      refine own_st (fun _ k => XS.sipush X0.here hx rfl (hb hby d2_60) k) ?_
      show own_Go p e below _ (T0.setTop (mkF m 63 #[.val (.int p0)] [(.int (767 : Int32)), (.int p0)]))
      by_cases hc63 : (767 : Int32) < p0
      · refine own_st (fun _ k => XS.icmpNo X0.here hx rfl (hb hby d2_63) rfl ((own_i2 _ _ _).trans (own_nyes (hc63 : (767 : Int32) < p0))) k) ?_
        show own_Go p e below _ (T0.setTop (mkF m 66 #[.val (.int p0)] []))
        exact B66 T0 X0 e0 ((show own_b_52 p0 = own_b_66 p0 from ((if_neg hc56)).trans ((if_pos hc63))).symm.trans hbk)
      · refine own_st (fun _ k => XS.icmpYes X0.here hx rfl (pc0 := 63) (pc' := 185) rfl (hb hby d2_63) rfl ((own_i2 _ _ _).trans (own_nno (hc63 : ¬ ((767 : Int32) < p0)))) (by decide) (by decide) k) ?_
        show own_Go p e below _ (T0.setTop (mkF m 185 #[.val (.int p0)] []))
        exact B185 T0 X0 e0 ((show own_b_52 p0 = own_b_185 p0 from ((if_neg hc56)).trans ((if_neg hc63))).symm.trans hbk)
  have B38 : ∀ (T0 : State), Stand p l e ({ frames := 0, cells := 0, slots := 0, locals := 0 } : Room) s m #[(.int p0)] below meth c T0 [] 0 0 → T0.heap = h0 → own_b_38 p0 = own_b_0 p0 → own_Go p e below (own_Post s (own_P (some (.int (own_b_0 p0))) h0) ({ frames := 0, cells := 0, slots := 0, locals := 0 } : Room).cells ({ frames := 0, cells := 0, slots := 0, locals := 0 } : Room).slots) (T0.setTop (mkF m 38 #[.val (.int p0)] [])) := by
    intro T0 X0 e0 hbk
    show own_Go p e below _ (T0.setTop (mkF m 38 #[.val (.int p0)] []))
    refine own_st (fun _ k => XS.iloadN X0.here hx rfl (hb hby d2_38) rfl k) ?_
    show own_Go p e below _ (T0.setTop (mkF m 39 #[.val (.int p0)] [(.int p0)]))
    refine own_st (fun _ k => XS.sipush X0.here hx rfl (hb hby d2_39) k) ?_
    show own_Go p e below _ (T0.setTop (mkF m 42 #[.val (.int p0)] [(.int (216 : Int32)), (.int p0)]))
    by_cases hc42 : p0 < (216 : Int32)
    · refine own_st (fun _ k => XS.icmpYes X0.here hx rfl (pc0 := 42) (pc' := 52) rfl (hb hby d2_42) rfl ((own_i2 _ _ _).trans (own_yes (hc42 : p0 < (216 : Int32)))) (by decide) (by decide) k) ?_
      show own_Go p e below _ (T0.setTop (mkF m 52 #[.val (.int p0)] []))
      exact B52 T0 X0 e0 ((show own_b_38 p0 = own_b_52 p0 from (if_pos hc42)).symm.trans hbk)
    · refine own_st (fun _ k => XS.icmpNo X0.here hx rfl (hb hby d2_42) rfl ((own_i2 _ _ _).trans (own_no (hc42 : ¬ (p0 < (216 : Int32))))) k) ?_
      show own_Go p e below _ (T0.setTop (mkF m 45 #[.val (.int p0)] []))
      refine own_st (fun _ k => XS.iloadN X0.here hx rfl (hb hby d2_45) rfl k) ?_
      show own_Go p e below _ (T0.setTop (mkF m 46 #[.val (.int p0)] [(.int p0)]))
      refine own_st (fun _ k => XS.sipush X0.here hx rfl (hb hby d2_46) k) ?_
      show own_Go p e below _ (T0.setTop (mkF m 49 #[.val (.int p0)] [(.int (246 : Int32)), (.int p0)]))
      by_cases hc49 : (246 : Int32) < p0
      · refine own_st (fun _ k => XS.icmpNo X0.here hx rfl (hb hby d2_49) rfl ((own_i2 _ _ _).trans (own_nyes (hc49 : (246 : Int32) < p0))) k) ?_
        show own_Go p e below _ (T0.setTop (mkF m 52 #[.val (.int p0)] []))
        exact B52 T0 X0 e0 ((show own_b_38 p0 = own_b_52 p0 from ((if_neg hc42)).trans ((if_pos hc49))).symm.trans hbk)
      · refine own_st (fun _ k => XS.icmpYes X0.here hx rfl (pc0 := 49) (pc' := 185) rfl (hb hby d2_49) rfl ((own_i2 _ _ _).trans (own_nno (hc49 : ¬ ((246 : Int32) < p0)))) (by decide) (by decide) k) ?_
        show own_Go p e below _ (T0.setTop (mkF m 185 #[.val (.int p0)] []))
        exact B185 T0 X0 e0 ((show own_b_38 p0 = own_b_185 p0 from ((if_neg hc42)).trans ((if_neg hc49))).symm.trans hbk)
  have B24 : ∀ (T0 : State), Stand p l e ({ frames := 0, cells := 0, slots := 0, locals := 0 } : Room) s m #[(.int p0)] below meth c T0 [] 0 0 → T0.heap = h0 → own_b_24 p0 = own_b_0 p0 → own_Go p e below (own_Post s (own_P (some (.int (own_b_0 p0))) h0) ({ frames := 0, cells := 0, slots := 0, locals := 0 } : Room).cells ({ frames := 0, cells := 0, slots := 0, locals := 0 } : Room).slots) (T0.setTop (mkF m 24 #[.val (.int p0)] [])) := by
    intro T0 X0 e0 hbk
    show own_Go p e below _ (T0.setTop (mkF m 24 #[.val (.int p0)] []))
    refine own_st (fun _ k => XS.iloadN X0.here hx rfl (hb hby d2_24) rfl k) ?_
    show own_Go p e below _ (T0.setTop (mkF m 25 #[.val (.int p0)] [(.int p0)]))
    refine own_st (fun _ k => XS.sipush X0.here hx rfl (hb hby d2_25) k) ?_
    show own_Go p e below _ (T0.setTop (mkF m 28 #[.val (.int p0)] [(.int (192 : Int32)), (.int p0)]))
    by_cases hc28 : p0 < (192 : Int32)
    · refine own_st (fun _ k => XS.icmpYes X0.here hx rfl (pc0 := 28) (pc' := 38) rfl (hb hby d2_28) rfl ((own_i2 _ _ _).trans (own_yes (hc28 : p0 < (192 : Int32)))) (by decide) (by decide) k) ?_
      show own_Go p e below _ (T0.setTop (mkF m 38 #[.val (.int p0)] []))
      exact B38 T0 X0 e0 ((show own_b_24 p0 = own_b_38 p0 from (if_pos hc28)).symm.trans hbk)
    · refine own_st (fun _ k => XS.icmpNo X0.here hx rfl (hb hby d2_28) rfl ((own_i2 _ _ _).trans (own_no (hc28 : ¬ (p0 < (192 : Int32))))) k) ?_
      show own_Go p e below _ (T0.setTop (mkF m 31 #[.val (.int p0)] []))
      refine own_st (fun _ k => XS.iloadN X0.here hx rfl (hb hby d2_31) rfl k) ?_
      show own_Go p e below _ (T0.setTop (mkF m 32 #[.val (.int p0)] [(.int p0)]))
      refine own_st (fun _ k => XS.sipush X0.here hx rfl (hb hby d2_32) k) ?_
      show own_Go p e below _ (T0.setTop (mkF m 35 #[.val (.int p0)] [(.int (214 : Int32)), (.int p0)]))
      by_cases hc35 : (214 : Int32) < p0
      · refine own_st (fun _ k => XS.icmpNo X0.here hx rfl (hb hby d2_35) rfl ((own_i2 _ _ _).trans (own_nyes (hc35 : (214 : Int32) < p0))) k) ?_
        show own_Go p e below _ (T0.setTop (mkF m 38 #[.val (.int p0)] []))
        exact B38 T0 X0 e0 ((show own_b_24 p0 = own_b_38 p0 from ((if_neg hc28)).trans ((if_pos hc35))).symm.trans hbk)
      · refine own_st (fun _ k => XS.icmpYes X0.here hx rfl (pc0 := 35) (pc' := 185) rfl (hb hby d2_35) rfl ((own_i2 _ _ _).trans (own_nno (hc35 : ¬ ((214 : Int32) < p0)))) (by decide) (by decide) k) ?_
        show own_Go p e below _ (T0.setTop (mkF m 185 #[.val (.int p0)] []))
        exact B185 T0 X0 e0 ((show own_b_24 p0 = own_b_185 p0 from ((if_neg hc28)).trans ((if_neg hc35))).symm.trans hbk)
  have B12 : ∀ (T0 : State), Stand p l e ({ frames := 0, cells := 0, slots := 0, locals := 0 } : Room) s m #[(.int p0)] below meth c T0 [] 0 0 → T0.heap = h0 → own_b_12 p0 = own_b_0 p0 → own_Go p e below (own_Post s (own_P (some (.int (own_b_0 p0))) h0) ({ frames := 0, cells := 0, slots := 0, locals := 0 } : Room).cells ({ frames := 0, cells := 0, slots := 0, locals := 0 } : Room).slots) (T0.setTop (mkF m 12 #[.val (.int p0)] [])) := by
    intro T0 X0 e0 hbk
    show own_Go p e below _ (T0.setTop (mkF m 12 #[.val (.int p0)] []))
    refine own_st (fun _ k => XS.iloadN X0.here hx rfl (hb hby d2_12) rfl k) ?_
    show own_Go p e below _ (T0.setTop (mkF m 13 #[.val (.int p0)] [(.int p0)]))
    refine own_st (fun _ k => XS.bipush X0.here hx rfl (hb hby d2_13) k) ?_
    show own_Go p e below _ (T0.setTop (mkF m 15 #[.val (.int p0)] [(.int (65 : Int32)), (.int p0)]))
    by_cases hc15 : p0 < (65 : Int32)
    · refine own_st (fun _ k => XS.icmpYes X0.here hx rfl (pc0 := 15) (pc' := 24) rfl (hb hby d2_15) rfl ((own_i2 _ _ _).trans (own_yes (hc15 : p0 < (65 : Int32)))) (by decide) (by decide) k) ?_
      show own_Go p e below _ (T0.setTop (mkF m 24 #[.val (.int p0)] []))
      exact B24 T0 X0 e0 ((show own_b_12 p0 = own_b_24 p0 from (if_pos hc15)).symm.trans hbk)
    · refine own_st (fun _ k => XS.icmpNo X0.here hx rfl (hb hby d2_15) rfl ((own_i2 _ _ _).trans (own_no (hc15 : ¬ (p0 < (65 : Int32))))) k) ?_
      show own_Go p e below _ (T0.setTop (mkF m 18 #[.val (.int p0)] []))
      refine own_st (fun _ k => XS.iloadN X0.here hx rfl (hb hby d2_18) rfl k) ?_
      show own_Go p e below _ (T0.setTop (mkF m 19 #[.val (.int p0)] [(.int p0)]))
      refine own_st (fun _ k => XS.bipush X0.here hx rfl (hb hby d2_19) k) ?_
      show own_Go p e below _ (T0.setTop (mkF m 21 #[.val (.int p0)] [(.int (90 : Int32)), (.int p0)]))
      by_cases hc21 : (90 : Int32) < p0
      · refine own_st (fun _ k => XS.icmpNo X0.here hx rfl (hb hby d2_21) rfl ((own_i2 _ _ _).trans (own_nyes (hc21 : (90 : Int32) < p0))) k) ?_
        show own_Go p e below _ (T0.setTop (mkF m 24 #[.val (.int p0)] []))
        exact B24 T0 X0 e0 ((show own_b_12 p0 = own_b_24 p0 from ((if_neg hc15)).trans ((if_pos hc21))).symm.trans hbk)
      · refine own_st (fun _ k => XS.icmpYes X0.here hx rfl (pc0 := 21) (pc' := 185) rfl (hb hby d2_21) rfl ((own_i2 _ _ _).trans (own_nno (hc21 : ¬ ((90 : Int32) < p0)))) (by decide) (by decide) k) ?_
        show own_Go p e below _ (T0.setTop (mkF m 185 #[.val (.int p0)] []))
        exact B185 T0 X0 e0 ((show own_b_12 p0 = own_b_185 p0 from ((if_neg hc15)).trans ((if_neg hc21))).symm.trans hbk)
  have B0 : ∀ (T0 : State), Stand p l e ({ frames := 0, cells := 0, slots := 0, locals := 0 } : Room) s m #[(.int p0)] below meth c T0 [] 0 0 → T0.heap = h0 → own_b_0 p0 = own_b_0 p0 → own_Go p e below (own_Post s (own_P (some (.int (own_b_0 p0))) h0) ({ frames := 0, cells := 0, slots := 0, locals := 0 } : Room).cells ({ frames := 0, cells := 0, slots := 0, locals := 0 } : Room).slots) (T0.setTop (mkF m 0 #[.val (.int p0)] [])) := by
    intro T0 X0 e0 hbk
    show own_Go p e below _ (T0.setTop (mkF m 0 #[.val (.int p0)] []))
    refine own_st (fun _ k => XS.iloadN X0.here hx rfl (hb hby d2_0) rfl k) ?_
    show own_Go p e below _ (T0.setTop (mkF m 1 #[.val (.int p0)] [(.int p0)]))
    refine own_st (fun _ k => XS.bipush X0.here hx rfl (hb hby d2_1) k) ?_
    show own_Go p e below _ (T0.setTop (mkF m 3 #[.val (.int p0)] [(.int (97 : Int32)), (.int p0)]))
    by_cases hc3 : p0 < (97 : Int32)
    · refine own_st (fun _ k => XS.icmpYes X0.here hx rfl (pc0 := 3) (pc' := 12) rfl (hb hby d2_3) rfl ((own_i2 _ _ _).trans (own_yes (hc3 : p0 < (97 : Int32)))) (by decide) (by decide) k) ?_
      show own_Go p e below _ (T0.setTop (mkF m 12 #[.val (.int p0)] []))
      exact B12 T0 X0 e0 ((show own_b_0 p0 = own_b_12 p0 from (if_pos hc3)).symm.trans hbk)
    · refine own_st (fun _ k => XS.icmpNo X0.here hx rfl (hb hby d2_3) rfl ((own_i2 _ _ _).trans (own_no (hc3 : ¬ (p0 < (97 : Int32))))) k) ?_
      show own_Go p e below _ (T0.setTop (mkF m 6 #[.val (.int p0)] []))
      refine own_st (fun _ k => XS.iloadN X0.here hx rfl (hb hby d2_6) rfl k) ?_
      show own_Go p e below _ (T0.setTop (mkF m 7 #[.val (.int p0)] [(.int p0)]))
      refine own_st (fun _ k => XS.bipush X0.here hx rfl (hb hby d2_7) k) ?_
      show own_Go p e below _ (T0.setTop (mkF m 9 #[.val (.int p0)] [(.int (122 : Int32)), (.int p0)]))
      by_cases hc9 : (122 : Int32) < p0
      · refine own_st (fun _ k => XS.icmpNo X0.here hx rfl (hb hby d2_9) rfl ((own_i2 _ _ _).trans (own_nyes (hc9 : (122 : Int32) < p0))) k) ?_
        show own_Go p e below _ (T0.setTop (mkF m 12 #[.val (.int p0)] []))
        exact B12 T0 X0 e0 ((show own_b_0 p0 = own_b_12 p0 from ((if_neg hc3)).trans ((if_pos hc9))).symm.trans hbk)
      · refine own_st (fun _ k => XS.icmpYes X0.here hx rfl (pc0 := 9) (pc' := 185) rfl (hb hby d2_9) rfl ((own_i2 _ _ _).trans (own_nno (hc9 : ¬ ((122 : Int32) < p0)))) (by decide) (by decide) k) ?_
        show own_Go p e below _ (T0.setTop (mkF m 185 #[.val (.int p0)] []))
        exact B185 T0 X0 e0 ((show own_b_0 p0 = own_b_185 p0 from ((if_neg hc3)).trans ((if_neg hc9))).symm.trans hbk)
  rw [ef_2]
  exact B0 _ X0 e0 rfl
def own_a_70 (p0 : Int32) : Int32 := (0 : Int32)
def own_a_66 (p0 : Int32) : Int32 := (1 : Int32)
def own_a_52 (p0 : Int32) : Int32 := (if p0 < (8255 : Int32) then (own_a_70 p0) else (if (8256 : Int32) < p0 then (own_a_70 p0) else (own_a_66 p0)))
def own_a_31 (p0 : Int32) : Int32 := (if p0 = (183 : Int32) then (own_a_66 p0) else (if p0 < (768 : Int32) then (own_a_52 p0) else (if (879 : Int32) < p0 then (own_a_52 p0) else (own_a_66 p0))))
def own_a_0 (p0 : Int32) : Int32 := (if (own_b_0 p0) = (0 : Int32) then (if p0 = (95 : Int32) then (own_a_66 p0) else (if p0 = (45 : Int32) then (own_a_66 p0) else (if p0 < (48 : Int32) then (own_a_31 p0) else (if (57 : Int32) < p0 then (own_a_31 p0) else (own_a_66 p0))))) else (own_a_66 p0))
theorem d1_0 : decode prog_63_method_3_code 0 = .ok (.iload_n 0, 1) := by decide +kernel
theorem d1_1 : decode prog_63_method_3_code 1 = .ok (.invokestatic 14, 3) := by decide +kernel
theorem d1_4 : decode prog_63_method_3_code 4 = .ok (.ifCond .ne 62, 3) := by decide +kernel
theorem d1_7 : decode prog_63_method_3_code 7 = .ok (.iload_n 0, 1) := by decide +kernel
theorem d1_8 : decode prog_63_method_3_code 8 = .ok (.bipush 95, 2) := by decide +kernel
theorem d1_10 : decode prog_63_method_3_code 10 = .ok (.if_icmp .eq 56, 3) := by decide +kernel
theorem d1_13 : decode prog_63_method_3_code 13 = .ok (.iload_n 0, 1) := by decide +kernel
theorem d1_14 : decode prog_63_method_3_code 14 = .ok (.bipush 45, 2) := by decide +kernel
theorem d1_16 : decode prog_63_method_3_code 16 = .ok (.if_icmp .eq 50, 3) := by decide +kernel
theorem d1_19 : decode prog_63_method_3_code 19 = .ok (.iload_n 0, 1) := by decide +kernel
theorem d1_20 : decode prog_63_method_3_code 20 = .ok (.bipush 48, 2) := by decide +kernel
theorem d1_22 : decode prog_63_method_3_code 22 = .ok (.if_icmp .lt 9, 3) := by decide +kernel
theorem d1_25 : decode prog_63_method_3_code 25 = .ok (.iload_n 0, 1) := by decide +kernel
theorem d1_26 : decode prog_63_method_3_code 26 = .ok (.bipush 57, 2) := by decide +kernel
theorem d1_28 : decode prog_63_method_3_code 28 = .ok (.if_icmp .le 38, 3) := by decide +kernel
theorem d1_31 : decode prog_63_method_3_code 31 = .ok (.iload_n 0, 1) := by decide +kernel
theorem d1_32 : decode prog_63_method_3_code 32 = .ok (.sipush 183, 3) := by decide +kernel
theorem d1_35 : decode prog_63_method_3_code 35 = .ok (.if_icmp .eq 31, 3) := by decide +kernel
theorem d1_38 : decode prog_63_method_3_code 38 = .ok (.iload_n 0, 1) := by decide +kernel
theorem d1_39 : decode prog_63_method_3_code 39 = .ok (.sipush 768, 3) := by decide +kernel
theorem d1_42 : decode prog_63_method_3_code 42 = .ok (.if_icmp .lt 10, 3) := by decide +kernel
theorem d1_45 : decode prog_63_method_3_code 45 = .ok (.iload_n 0, 1) := by decide +kernel
theorem d1_46 : decode prog_63_method_3_code 46 = .ok (.sipush 879, 3) := by decide +kernel
theorem d1_49 : decode prog_63_method_3_code 49 = .ok (.if_icmp .le 17, 3) := by decide +kernel
theorem d1_52 : decode prog_63_method_3_code 52 = .ok (.iload_n 0, 1) := by decide +kernel
theorem d1_53 : decode prog_63_method_3_code 53 = .ok (.sipush 8255, 3) := by decide +kernel
theorem d1_56 : decode prog_63_method_3_code 56 = .ok (.if_icmp .lt 14, 3) := by decide +kernel
theorem d1_59 : decode prog_63_method_3_code 59 = .ok (.iload_n 0, 1) := by decide +kernel
theorem d1_60 : decode prog_63_method_3_code 60 = .ok (.sipush 8256, 3) := by decide +kernel
theorem d1_63 : decode prog_63_method_3_code 63 = .ok (.if_icmp .gt 7, 3) := by decide +kernel
theorem d1_66 : decode prog_63_method_3_code 66 = .ok (.iconst 1, 1) := by decide +kernel
theorem d1_67 : decode prog_63_method_3_code 67 = .ok (.goto 4, 3) := by decide +kernel
theorem d1_70 : decode prog_63_method_3_code 70 = .ok (.iconst 0, 1) := by decide +kernel
theorem d1_71 : decode prog_63_method_3_code 71 = .ok (.ireturn, 1) := by decide +kernel
theorem pn_1 : plainFor (⟨"com/example/hornbeam/hornbeam/rdf/NameCharacters", "isPnChars", "(I)Z"⟩ : MethodName) = true := plainFor_of_name (by first | (simp [plainName, overriddenIn]; done) | decide +kernel)
theorem ef_1 (m : MethodId) (x0 : Int32) : entryFrame m #[(.int x0)] 1 = mkF m 0 #[.val (.int x0)] [] := by first | (simp [entryFrame, mkF, argsToLocals, Value.category]; done) | rfl
set_option maxRecDepth 65536 in
set_option maxHeartbeats 40000000 in
theorem rm1 (l : Launch) (Z : State) (tA : Array Value) (hw : ∀ d ∈ tables_1, d.before tA Z = true) (p0 : Int32) (h0 : Heap) :
    own_Met l Z (⟨"com/example/hornbeam/hornbeam/rdf/NameCharacters", "isPnChars", "(I)Z"⟩ : MethodName) prog_63_method_3_code 1 (some .boolean) ({ frames := 1, cells := 0, slots := 0, locals := 12 } : Room) #[(.int p0)] h0 (own_P (some (.int (own_a_0 p0))) h0) := by
  refine own_body pn_1 ?_
  intro p e s m below meth c s₁ X0 hx hZ hby hml hown hret hlk hnm e0
  have B70 : ∀ (T0 : State), Stand p l e ({ frames := 1, cells := 0, slots := 0, locals := 12 } : Room) s m #[(.int p0)] below meth c T0 [] 0 0 → T0.heap = h0 → own_a_70 p0 = own_a_0 p0 → own_Go p e below (own_Post s (own_P (some (.int (own_a_0 p0))) h0) ({ frames := 1, cells := 0, slots := 0, locals := 12 } : Room).cells ({ frames := 1, cells := 0, slots := 0, locals := 12 } : Room).slots) (T0.setTop (mkF m 70 #[.val (.int p0)] [])) := by
    intro T0 X0 e0 hbk
    show own_Go p e below _ (T0.setTop (mkF m 70 #[.val (.int p0)] []))
    refine own_st (fun _ k => XS.iconst X0.here hx rfl (hb hby d1_70) k) ?_
    show own_Go p e below _ (T0.setTop (mkF m 71 #[.val (.int p0)] [(.int (0 : Int32))]))
    exact own_retZ X0 hx hlk hret rfl (hb hby d1_71) ⟨congrArg (fun z => some (Value.int z)) ((show own_a_70 p0 = (0 : Int32) from rfl).symm.trans hbk), rfl, e0⟩ (by decide) (by decide)
  have B66 : ∀ (T0 : State), Stand p l e ({ frames := 1, cells := 0, slots := 0, locals := 12 } : Room) s m #[(.int p0)] below meth c T0 [] 0 0 → T0.heap = h0 → own_a_66 p0 = own_a_0 p0 → own_Go p e below (own_Post s (own_P (some (.int (own_a_0 p0))) h0) ({ frames := 1, cells := 0, slots := 0, locals := 12 } : Room).cells ({ frames := 1, cells := 0, slots := 0, locals := 12 } : Room).slots) (T0.setTop (mkF m 66 #[.val (.int p0)] [])) := by
    intro T0 X0 e0 hbk
    show own_Go p e below _ (T0.setTop (mkF m 66 #[.val (.int p0)] []))
    refine own_st (fun _ k => XS.iconst X0.here hx rfl (hb hby d1_66) k) ?_
    show own_Go p e below _ (T0.setTop (mkF m 67 #[.val (.int p0)] [(.int (1 : Int32))]))
    refine own_st (fun _ k => XS.goto X0.here hx rfl (pc0 := 67) (pc' := 71) rfl (hb hby d1_67) (by decide) (by decide) k) ?_
    show own_Go p e below _ (T0.setTop (mkF m 71 #[.val (.int p0)] [(.int (1 : Int32))]))
    exact own_retZ X0 hx hlk hret rfl (hb hby d1_71) ⟨congrArg (fun z => some (Value.int z)) ((show own_a_66 p0 = (1 : Int32) from rfl).symm.trans hbk), rfl, e0⟩ (by decide) (by decide)
  have B52 : ∀ (T0 : State), Stand p l e ({ frames := 1, cells := 0, slots := 0, locals := 12 } : Room) s m #[(.int p0)] below meth c T0 [] 0 0 → T0.heap = h0 → own_a_52 p0 = own_a_0 p0 → own_Go p e below (own_Post s (own_P (some (.int (own_a_0 p0))) h0) ({ frames := 1, cells := 0, slots := 0, locals := 12 } : Room).cells ({ frames := 1, cells := 0, slots := 0, locals := 12 } : Room).slots) (T0.setTop (mkF m 52 #[.val (.int p0)] [])) := by
    intro T0 X0 e0 hbk
    show own_Go p e below _ (T0.setTop (mkF m 52 #[.val (.int p0)] []))
    refine own_st (fun _ k => XS.iloadN X0.here hx rfl (hb hby d1_52) rfl k) ?_
    show own_Go p e below _ (T0.setTop (mkF m 53 #[.val (.int p0)] [(.int p0)]))
    refine own_st (fun _ k => XS.sipush X0.here hx rfl (hb hby d1_53) k) ?_
    show own_Go p e below _ (T0.setTop (mkF m 56 #[.val (.int p0)] [(.int (8255 : Int32)), (.int p0)]))
    by_cases hc56 : p0 < (8255 : Int32)
    · refine own_st (fun _ k => XS.icmpYes X0.here hx rfl (pc0 := 56) (pc' := 70) rfl (hb hby d1_56) rfl ((own_i2 _ _ _).trans (own_yes (hc56 : p0 < (8255 : Int32)))) (by decide) (by decide) k) ?_
      show own_Go p e below _ (T0.setTop (mkF m 70 #[.val (.int p0)] []))
      exact B70 T0 X0 e0 ((show own_a_52 p0 = own_a_70 p0 from (if_pos hc56)).symm.trans hbk)
    · refine own_st (fun _ k => XS.icmpNo X0.here hx rfl (hb hby d1_56) rfl ((own_i2 _ _ _).trans (own_no (hc56 : ¬ (p0 < (8255 : Int32))))) k) ?_
      show own_Go p e below _ (T0.setTop (mkF m 59 #[.val (.int p0)] []))
      refine own_st (fun _ k => XS.iloadN X0.here hx rfl (hb hby d1_59) rfl k) ?_
      show own_Go p e below _ (T0.setTop (mkF m 60 #[.val (.int p0)] [(.int p0)]))
      refine own_st (fun _ k => XS.sipush X0.here hx rfl (hb hby d1_60) k) ?_
      show own_Go p e below _ (T0.setTop (mkF m 63 #[.val (.int p0)] [(.int (8256 : Int32)), (.int p0)]))
      by_cases hc63 : (8256 : Int32) < p0
      · refine own_st (fun _ k => XS.icmpYes X0.here hx rfl (pc0 := 63) (pc' := 70) rfl (hb hby d1_63) rfl ((own_i2 _ _ _).trans (own_yes (hc63 : (8256 : Int32) < p0))) (by decide) (by decide) k) ?_
        show own_Go p e below _ (T0.setTop (mkF m 70 #[.val (.int p0)] []))
        exact B70 T0 X0 e0 ((show own_a_52 p0 = own_a_70 p0 from ((if_neg hc56)).trans ((if_pos hc63))).symm.trans hbk)
      · refine own_st (fun _ k => XS.icmpNo X0.here hx rfl (hb hby d1_63) rfl ((own_i2 _ _ _).trans (own_no (hc63 : ¬ ((8256 : Int32) < p0)))) k) ?_
        show own_Go p e below _ (T0.setTop (mkF m 66 #[.val (.int p0)] []))
        exact B66 T0 X0 e0 ((show own_a_52 p0 = own_a_66 p0 from ((if_neg hc56)).trans ((if_neg hc63))).symm.trans hbk)
  have B31 : ∀ (T0 : State), Stand p l e ({ frames := 1, cells := 0, slots := 0, locals := 12 } : Room) s m #[(.int p0)] below meth c T0 [] 0 0 → T0.heap = h0 → own_a_31 p0 = own_a_0 p0 → own_Go p e below (own_Post s (own_P (some (.int (own_a_0 p0))) h0) ({ frames := 1, cells := 0, slots := 0, locals := 12 } : Room).cells ({ frames := 1, cells := 0, slots := 0, locals := 12 } : Room).slots) (T0.setTop (mkF m 31 #[.val (.int p0)] [])) := by
    intro T0 X0 e0 hbk
    show own_Go p e below _ (T0.setTop (mkF m 31 #[.val (.int p0)] []))
    refine own_st (fun _ k => XS.iloadN X0.here hx rfl (hb hby d1_31) rfl k) ?_
    show own_Go p e below _ (T0.setTop (mkF m 32 #[.val (.int p0)] [(.int p0)]))
    refine own_st (fun _ k => XS.sipush X0.here hx rfl (hb hby d1_32) k) ?_
    show own_Go p e below _ (T0.setTop (mkF m 35 #[.val (.int p0)] [(.int (183 : Int32)), (.int p0)]))
    by_cases hc35 : p0 = (183 : Int32)
    · refine own_st (fun _ k => XS.icmpYes X0.here hx rfl (pc0 := 35) (pc' := 66) rfl (hb hby d1_35) rfl ((own_i2 _ _ _).trans (own_yes (hc35 : p0 = (183 : Int32)))) (by decide) (by decide) k) ?_
      show own_Go p e below _ (T0.setTop (mkF m 66 #[.val (.int p0)] []))
      exact B66 T0 X0 e0 ((show own_a_31 p0 = own_a_66 p0 from (if_pos hc35)).symm.trans hbk)
    · refine own_st (fun _ k => XS.icmpNo X0.here hx rfl (hb hby d1_35) rfl ((own_i2 _ _ _).trans (own_no (hc35 : ¬ (p0 = (183 : Int32))))) k) ?_
      show own_Go p e below _ (T0.setTop (mkF m 38 #[.val (.int p0)] []))
      refine own_st (fun _ k => XS.iloadN X0.here hx rfl (hb hby d1_38) rfl k) ?_
      show own_Go p e below _ (T0.setTop (mkF m 39 #[.val (.int p0)] [(.int p0)]))
      refine own_st (fun _ k => XS.sipush X0.here hx rfl (hb hby d1_39) k) ?_
      show own_Go p e below _ (T0.setTop (mkF m 42 #[.val (.int p0)] [(.int (768 : Int32)), (.int p0)]))
      by_cases hc42 : p0 < (768 : Int32)
      · refine own_st (fun _ k => XS.icmpYes X0.here hx rfl (pc0 := 42) (pc' := 52) rfl (hb hby d1_42) rfl ((own_i2 _ _ _).trans (own_yes (hc42 : p0 < (768 : Int32)))) (by decide) (by decide) k) ?_
        show own_Go p e below _ (T0.setTop (mkF m 52 #[.val (.int p0)] []))
        exact B52 T0 X0 e0 ((show own_a_31 p0 = own_a_52 p0 from ((if_neg hc35)).trans ((if_pos hc42))).symm.trans hbk)
      · refine own_st (fun _ k => XS.icmpNo X0.here hx rfl (hb hby d1_42) rfl ((own_i2 _ _ _).trans (own_no (hc42 : ¬ (p0 < (768 : Int32))))) k) ?_
        show own_Go p e below _ (T0.setTop (mkF m 45 #[.val (.int p0)] []))
        refine own_st (fun _ k => XS.iloadN X0.here hx rfl (hb hby d1_45) rfl k) ?_
        show own_Go p e below _ (T0.setTop (mkF m 46 #[.val (.int p0)] [(.int p0)]))
        refine own_st (fun _ k => XS.sipush X0.here hx rfl (hb hby d1_46) k) ?_
        show own_Go p e below _ (T0.setTop (mkF m 49 #[.val (.int p0)] [(.int (879 : Int32)), (.int p0)]))
        by_cases hc49 : (879 : Int32) < p0
        · refine own_st (fun _ k => XS.icmpNo X0.here hx rfl (hb hby d1_49) rfl ((own_i2 _ _ _).trans (own_nyes (hc49 : (879 : Int32) < p0))) k) ?_
          show own_Go p e below _ (T0.setTop (mkF m 52 #[.val (.int p0)] []))
          exact B52 T0 X0 e0 ((show own_a_31 p0 = own_a_52 p0 from ((if_neg hc35)).trans (((if_neg hc42)).trans ((if_pos hc49)))).symm.trans hbk)
        · refine own_st (fun _ k => XS.icmpYes X0.here hx rfl (pc0 := 49) (pc' := 66) rfl (hb hby d1_49) rfl ((own_i2 _ _ _).trans (own_nno (hc49 : ¬ ((879 : Int32) < p0)))) (by decide) (by decide) k) ?_
          show own_Go p e below _ (T0.setTop (mkF m 66 #[.val (.int p0)] []))
          exact B66 T0 X0 e0 ((show own_a_31 p0 = own_a_66 p0 from ((if_neg hc35)).trans (((if_neg hc42)).trans ((if_neg hc49)))).symm.trans hbk)
  have B0 : ∀ (T0 : State), Stand p l e ({ frames := 1, cells := 0, slots := 0, locals := 12 } : Room) s m #[(.int p0)] below meth c T0 [] 0 0 → T0.heap = h0 → own_a_0 p0 = own_a_0 p0 → own_Go p e below (own_Post s (own_P (some (.int (own_a_0 p0))) h0) ({ frames := 1, cells := 0, slots := 0, locals := 12 } : Room).cells ({ frames := 1, cells := 0, slots := 0, locals := 12 } : Room).slots) (T0.setTop (mkF m 0 #[.val (.int p0)] [])) := by
    intro T0 X0 e0 hbk
    show own_Go p e below _ (T0.setTop (mkF m 0 #[.val (.int p0)] []))
    refine own_st (fun _ k => XS.iloadN X0.here hx rfl (hb hby d1_0) rfl k) ?_
    show own_Go p e below _ (T0.setTop (mkF m 1 #[.val (.int p0)] [(.int p0)]))
    obtain ⟨_, T1, _, X1, ⟨rfl, rfl, e1⟩, st1⟩ := own_callS X0 hx hZ (y := (⟨"com/example/hornbeam/hornbeam/rdf/NameCharacters", "isPnCharsBase", "(I)Z"⟩ : MethodName)) (argsL := [(.int p0)]) (rest := []) (W := 0) (g := (mkF m 1 #[.val (.int p0)] [(.int p0)])) (rm2 l Z tA hw p0 h0) hown (hw _ (List.mem_of_getElem? (i := 13) rfl)) (hw _ (List.mem_of_getElem? (i := 14) rfl)) (hw _ (List.mem_of_getElem? (i := 11) rfl)) (hw _ (List.mem_of_getElem? (i := 15) rfl)) (by decide) e0 rfl (by rw [hml]; rfl) pd_0 rfl rfl (by show 2 * 0 + _ ≤ _; exact Nat.le_of_eq rfl) (hb hby d1_1) (by decide) (by decide) (by decide) (by decide)
    replace X1 := own_flat X1
    refine own_st st1 ?_
    show own_Go p e below _ (T1.setTop (mkF m 4 #[.val (.int p0)] [(.int (own_b_0 p0))]))
    by_cases hc4 : (own_b_0 p0) = (0 : Int32)
    · refine own_st (fun _ k => XS.ifNo X1.here hx rfl (hb hby d1_4) rfl ((own_i0 _ _).trans (own_nyes (hc4 : (own_b_0 p0) = (0 : Int32)))) k) ?_
      show own_Go p e below _ (T1.setTop (mkF m 7 #[.val (.int p0)] []))
      refine own_st (fun _ k => XS.iloadN X1.here hx rfl (hb hby d1_7) rfl k) ?_
      show own_Go p e below _ (T1.setTop (mkF m 8 #[.val (.int p0)] [(.int p0)]))
      refine own_st (fun _ k => XS.bipush X1.here hx rfl (hb hby d1_8) k) ?_
      show own_Go p e below _ (T1.setTop (mkF m 10 #[.val (.int p0)] [(.int (95 : Int32)), (.int p0)]))
      by_cases hc10 : p0 = (95 : Int32)
      · refine own_st (fun _ k => XS.icmpYes X1.here hx rfl (pc0 := 10) (pc' := 66) rfl (hb hby d1_10) rfl ((own_i2 _ _ _).trans (own_yes (hc10 : p0 = (95 : Int32)))) (by decide) (by decide) k) ?_
        show own_Go p e below _ (T1.setTop (mkF m 66 #[.val (.int p0)] []))
        exact B66 T1 X1 e1 ((show own_a_0 p0 = own_a_66 p0 from ((if_pos hc4)).trans ((if_pos hc10))).symm.trans hbk)
      · refine own_st (fun _ k => XS.icmpNo X1.here hx rfl (hb hby d1_10) rfl ((own_i2 _ _ _).trans (own_no (hc10 : ¬ (p0 = (95 : Int32))))) k) ?_
        show own_Go p e below _ (T1.setTop (mkF m 13 #[.val (.int p0)] []))
        refine own_st (fun _ k => XS.iloadN X1.here hx rfl (hb hby d1_13) rfl k) ?_
        show own_Go p e below _ (T1.setTop (mkF m 14 #[.val (.int p0)] [(.int p0)]))
        refine own_st (fun _ k => XS.bipush X1.here hx rfl (hb hby d1_14) k) ?_
        show own_Go p e below _ (T1.setTop (mkF m 16 #[.val (.int p0)] [(.int (45 : Int32)), (.int p0)]))
        by_cases hc16 : p0 = (45 : Int32)
        · refine own_st (fun _ k => XS.icmpYes X1.here hx rfl (pc0 := 16) (pc' := 66) rfl (hb hby d1_16) rfl ((own_i2 _ _ _).trans (own_yes (hc16 : p0 = (45 : Int32)))) (by decide) (by decide) k) ?_
          show own_Go p e below _ (T1.setTop (mkF m 66 #[.val (.int p0)] []))
          exact B66 T1 X1 e1 ((show own_a_0 p0 = own_a_66 p0 from ((if_pos hc4)).trans (((if_neg hc10)).trans ((if_pos hc16)))).symm.trans hbk)
        · refine own_st (fun _ k => XS.icmpNo X1.here hx rfl (hb hby d1_16) rfl ((own_i2 _ _ _).trans (own_no (hc16 : ¬ (p0 = (45 : Int32))))) k) ?_
          show own_Go p e below _ (T1.setTop (mkF m 19 #[.val (.int p0)] []))
          refine own_st (fun _ k => XS.iloadN X1.here hx rfl (hb hby d1_19) rfl k) ?_
          show own_Go p e below _ (T1.setTop (mkF m 20 #[.val (.int p0)] [(.int p0)]))
          refine own_st (fun _ k => XS.bipush X1.here hx rfl (hb hby d1_20) k) ?_
          show own_Go p e below _ (T1.setTop (mkF m 22 #[.val (.int p0)] [(.int (48 : Int32)), (.int p0)]))
          by_cases hc22 : p0 < (48 : Int32)
          · refine own_st (fun _ k => XS.icmpYes X1.here hx rfl (pc0 := 22) (pc' := 31) rfl (hb hby d1_22) rfl ((own_i2 _ _ _).trans (own_yes (hc22 : p0 < (48 : Int32)))) (by decide) (by decide) k) ?_
            show own_Go p e below _ (T1.setTop (mkF m 31 #[.val (.int p0)] []))
            exact B31 T1 X1 e1 ((show own_a_0 p0 = own_a_31 p0 from ((if_pos hc4)).trans (((if_neg hc10)).trans (((if_neg hc16)).trans ((if_pos hc22))))).symm.trans hbk)
          · refine own_st (fun _ k => XS.icmpNo X1.here hx rfl (hb hby d1_22) rfl ((own_i2 _ _ _).trans (own_no (hc22 : ¬ (p0 < (48 : Int32))))) k) ?_
            show own_Go p e below _ (T1.setTop (mkF m 25 #[.val (.int p0)] []))
            refine own_st (fun _ k => XS.iloadN X1.here hx rfl (hb hby d1_25) rfl k) ?_
            show own_Go p e below _ (T1.setTop (mkF m 26 #[.val (.int p0)] [(.int p0)]))
            refine own_st (fun _ k => XS.bipush X1.here hx rfl (hb hby d1_26) k) ?_
            show own_Go p e below _ (T1.setTop (mkF m 28 #[.val (.int p0)] [(.int (57 : Int32)), (.int p0)]))
            by_cases hc28 : (57 : Int32) < p0
            · refine own_st (fun _ k => XS.icmpNo X1.here hx rfl (hb hby d1_28) rfl ((own_i2 _ _ _).trans (own_nyes (hc28 : (57 : Int32) < p0))) k) ?_
              show own_Go p e below _ (T1.setTop (mkF m 31 #[.val (.int p0)] []))
              exact B31 T1 X1 e1 ((show own_a_0 p0 = own_a_31 p0 from ((if_pos hc4)).trans (((if_neg hc10)).trans (((if_neg hc16)).trans (((if_neg hc22)).trans ((if_pos hc28)))))).symm.trans hbk)
            · refine own_st (fun _ k => XS.icmpYes X1.here hx rfl (pc0 := 28) (pc' := 66) rfl (hb hby d1_28) rfl ((own_i2 _ _ _).trans (own_nno (hc28 : ¬ ((57 : Int32) < p0)))) (by decide) (by decide) k) ?_
              show own_Go p e below _ (T1.setTop (mkF m 66 #[.val (.int p0)] []))
              exact B66 T1 X1 e1 ((show own_a_0 p0 = own_a_66 p0 from ((if_pos hc4)).trans (((if_neg hc10)).trans (((if_neg hc16)).trans (((if_neg hc22)).trans ((if_neg hc28)))))).symm.trans hbk)
    · refine own_st (fun _ k => XS.ifYes X1.here hx rfl (pc0 := 4) (pc' := 66) rfl (hb hby d1_4) rfl ((own_i0 _ _).trans (own_nno (hc4 : ¬ ((own_b_0 p0) = (0 : Int32))))) (by decide) (by decide) k) ?_
      show own_Go p e below _ (T1.setTop (mkF m 66 #[.val (.int p0)] []))
      exact B66 T1 X1 e1 ((show own_a_0 p0 = own_a_66 p0 from (if_neg hc4)).symm.trans hbk)
  rw [ef_1]
  exact B0 _ X0 e0 rfl
def own_r_238 (p0 : Int32) : Int32 := (0 : Int32)
def own_r_228 (p0 : Int32) : Int32 := (if (983039 : Int32) < p0 then (own_r_238 p0) else (1 : Int32))
def own_r_226 (p0 : Int32) : Int32 := (0 : Int32)
def own_r_222 (p0 : Int32) : Int32 := (1 : Int32)
def own_r_130 (p0 : Int32) : Int32 := (if p0 < (65536 : Int32) then (if (own_in_0 p0 (8204 : Int32) (8205 : Int32)) = (0 : Int32) then (if (own_in_0 p0 (8255 : Int32) (8256 : Int32)) = (0 : Int32) then (if (own_in_0 p0 (8304 : Int32) (8591 : Int32)) = (0 : Int32) then (if (own_in_0 p0 (11264 : Int32) (12271 : Int32)) = (0 : Int32) then (if (own_in_0 p0 (12289 : Int32) (55295 : Int32)) = (0 : Int32) then (if (own_in_0 p0 (63744 : Int32) (64975 : Int32)) = (0 : Int32) then (if (own_in_0 p0 (65008 : Int32) (65533 : Int32)) = (0 : Int32) then (own_r_226 p0) else (own_r_222 p0)) else (own_r_222 p0)) else (own_r_222 p0)) else (own_r_222 p0)) else (own_r_222 p0)) else (own_r_222 p0)) else (own_r_222 p0)) else (own_r_228 p0))
def own_r_128 (p0 : Int32) : Int32 := (0 : Int32)
def own_r_124 (p0 : Int32) : Int32 := (1 : Int32)
def own_r_58 (p0 : Int32) : Int32 := (if p0 < (8192 : Int32) then (if p0 = (183 : Int32) then (own_r_124 p0) else (if (own_in_0 p0 (192 : Int32) (214 : Int32)) = (0 : Int32) then (if (own_in_0 p0 (216 : Int32) (246 : Int32)) = (0 : Int32) then (if (own_in_0 p0 (248 : Int32) (893 : Int32)) = (0 : Int32) then (if (own_in_0 p0 (895 : Int32) (8191 : Int32)) = (0 : Int32) then (own_r_128 p0) else (own_r_124 p0)) else (own_r_124 p0)) else (own_r_124 p0)) else (own_r_124 p0))) else (own_r_130 p0))
def own_r_56 (p0 : Int32) : Int32 := (0 : Int32)
def own_r_52 (p0 : Int32) : Int32 := (1 : Int32)
def own_r_0 (p0 : Int32) : Int32 := (if p0 < (128 : Int32) then (if p0 = (45 : Int32) then (own_r_52 p0) else (if (own_in_0 p0 (48 : Int32) (57 : Int32)) = (0 : Int32) then (if (own_in_0 p0 (65 : Int32) (90 : Int32)) = (0 : Int32) then (if p0 = (95 : Int32) then (own_r_52 p0) else (if (own_in_0 p0 (97 : Int32) (122 : Int32)) = (0 : Int32) then (own_r_56 p0) else (own_r_52 p0))) else (own_r_52 p0)) else (own_r_52 p0))) else (own_r_58 p0))
theorem d3_0 : decode method_3_code 0 = .ok (.iload_n 0, 1) := by decide +kernel
theorem d3_1 : decode method_3_code 1 = .ok (.sipush 128, 3) := by decide +kernel
theorem d3_4 : decode method_3_code 4 = .ok (.if_icmp .ge 54, 3) := by decide +kernel
theorem d3_7 : decode method_3_code 7 = .ok (.iload_n 0, 1) := by decide +kernel
theorem d3_8 : decode method_3_code 8 = .ok (.bipush 45, 2) := by decide +kernel
theorem d3_10 : decode method_3_code 10 = .ok (.if_icmp .eq 42, 3) := by decide +kernel
theorem d3_13 : decode method_3_code 13 = .ok (.iload_n 0, 1) := by decide +kernel
theorem d3_14 : decode method_3_code 14 = .ok (.bipush 48, 2) := by decide +kernel
theorem d3_16 : decode method_3_code 16 = .ok (.bipush 57, 2) := by decide +kernel
theorem d3_18 : decode method_3_code 18 = .ok (.invokestatic 7, 3) := by decide +kernel
theorem d3_21 : decode method_3_code 21 = .ok (.ifCond .ne 31, 3) := by decide +kernel
theorem d3_24 : decode method_3_code 24 = .ok (.iload_n 0, 1) := by decide +kernel
theorem d3_25 : decode method_3_code 25 = .ok (.bipush 65, 2) := by decide +kernel
theorem d3_27 : decode method_3_code 27 = .ok (.bipush 90, 2) := by decide +kernel
theorem d3_29 : decode method_3_code 29 = .ok (.invokestatic 7, 3) := by decide +kernel
theorem d3_32 : decode method_3_code 32 = .ok (.ifCond .ne 20, 3) := by decide +kernel
theorem d3_35 : decode method_3_code 35 = .ok (.iload_n 0, 1) := by decide +kernel
theorem d3_36 : decode method_3_code 36 = .ok (.bipush 95, 2) := by decide +kernel
theorem d3_38 : decode method_3_code 38 = .ok (.if_icmp .eq 14, 3) := by decide +kernel
theorem d3_41 : decode method_3_code 41 = .ok (.iload_n 0, 1) := by decide +kernel
theorem d3_42 : decode method_3_code 42 = .ok (.bipush 97, 2) := by decide +kernel
theorem d3_44 : decode method_3_code 44 = .ok (.bipush 122, 2) := by decide +kernel
theorem d3_46 : decode method_3_code 46 = .ok (.invokestatic 7, 3) := by decide +kernel
theorem d3_49 : decode method_3_code 49 = .ok (.ifCond .eq 7, 3) := by decide +kernel
theorem d3_52 : decode method_3_code 52 = .ok (.iconst 1, 1) := by decide +kernel
theorem d3_53 : decode method_3_code 53 = .ok (.goto 4, 3) := by decide +kernel
theorem d3_56 : decode method_3_code 56 = .ok (.iconst 0, 1) := by decide +kernel
theorem d3_57 : decode method_3_code 57 = .ok (.ireturn, 1) := by decide +kernel
theorem d3_58 : decode method_3_code 58 = .ok (.iload_n 0, 1) := by decide +kernel
theorem d3_59 : decode method_3_code 59 = .ok (.sipush 8192, 3) := by decide +kernel
theorem d3_62 : decode method_3_code 62 = .ok (.if_icmp .ge 68, 3) := by decide +kernel
theorem d3_65 : decode method_3_code 65 = .ok (.iload_n 0, 1) := by decide +kernel
theorem d3_66 : decode method_3_code 66 = .ok (.sipush 183, 3) := by decide +kernel
theorem d3_69 : decode method_3_code 69 = .ok (.if_icmp .eq 55, 3) := by decide +kernel
theorem d3_72 : decode method_3_code 72 = .ok (.iload_n 0, 1) := by decide +kernel
theorem d3_73 : decode method_3_code 73 = .ok (.sipush 192, 3) := by decide +kernel
theorem d3_76 : decode method_3_code 76 = .ok (.sipush 214, 3) := by decide +kernel
theorem d3_79 : decode method_3_code 79 = .ok (.invokestatic 7, 3) := by decide +kernel
theorem d3_82 : decode method_3_code 82 = .ok (.ifCond .ne 42, 3) := by decide +kernel
theorem d3_85 : decode method_3_code 85 = .ok (.iload_n 0, 1) := by decide +kernel
theorem d3_86 : decode method_3_code 86 = .ok (.sipush 216, 3) := by decide +kernel
theorem d3_89 : decode method_3_code 89 = .ok (.sipush 246, 3) := by decide +kernel
theorem d3_92 : decode method_3_code 92 = .ok (.invokestatic 7, 3) := by decide +kernel
theorem d3_95 : decode method_3_code 95 = .ok (.ifCond .ne 29, 3) := by decide +kernel
theorem d3_98 : decode method_3_code 98 = .ok (.iload_n 0, 1) := by decide +kernel
theorem d3_99 : decode method_3_code 99 = .ok (.sipush 248, 3) := by decide +kernel
theorem d3_102 : decode method_3_code 102 = .ok (.sipush 893, 3) := by decide +kernel
theorem d3_105 : decode method_3_code 105 = .ok (.invokestatic 7, 3) := by decide +kernel
theorem d3_108 : decode method_3_code 108 = .ok (.ifCond .ne 16, 3) := by decide +kernel
theorem d3_111 : decode method_3_code 111 = .ok (.iload_n 0, 1) := by decide +kernel
theorem d3_112 : decode method_3_code 112 = .ok (.sipush 895, 3) := by decide +kernel
theorem d3_115 : decode method_3_code 115 = .ok (.sipush 8191, 3) := by decide +kernel
theorem d3_118 : decode method_3_code 118 = .ok (.invokestatic 7, 3) := by decide +kernel
theorem d3_121 : decode method_3_code 121 = .ok (.ifCond .eq 7, 3) := by decide +kernel
theorem d3_124 : decode method_3_code 124 = .ok (.iconst 1, 1) := by decide +kernel
theorem d3_125 : decode method_3_code 125 = .ok (.goto 4, 3) := by decide +kernel
theorem d3_128 : decode method_3_code 128 = .ok (.iconst 0, 1) := by decide +kernel
theorem d3_129 : decode method_3_code 129 = .ok (.ireturn, 1) := by decide +kernel
theorem d3_130 : decode method_3_code 130 = .ok (.iload_n 0, 1) := by decide +kernel
theorem d3_131 : decode method_3_code 131 = .ok (.ldc 13, 2) := by decide +kernel
theorem d3_133 : decode method_3_code 133 = .ok (.if_icmp .ge 95, 3) := by decide +kernel
theorem d3_136 : decode method_3_code 136 = .ok (.iload_n 0, 1) := by decide +kernel
theorem d3_137 : decode method_3_code 137 = .ok (.sipush 8204, 3) := by decide +kernel
theorem d3_140 : decode method_3_code 140 = .ok (.sipush 8205, 3) := by decide +kernel
theorem d3_143 : decode method_3_code 143 = .ok (.invokestatic 7, 3) := by decide +kernel
theorem d3_146 : decode method_3_code 146 = .ok (.ifCond .ne 76, 3) := by decide +kernel
theorem d3_149 : decode method_3_code 149 = .ok (.iload_n 0, 1) := by decide +kernel
theorem d3_150 : decode method_3_code 150 = .ok (.sipush 8255, 3) := by decide +kernel
theorem d3_153 : decode method_3_code 153 = .ok (.sipush 8256, 3) := by decide +kernel
theorem d3_156 : decode method_3_code 156 = .ok (.invokestatic 7, 3) := by decide +kernel
theorem d3_159 : decode method_3_code 159 = .ok (.ifCond .ne 63, 3) := by decide +kernel
theorem d3_162 : decode method_3_code 162 = .ok (.iload_n 0, 1) := by decide +kernel
theorem d3_163 : decode method_3_code 163 = .ok (.sipush 8304, 3) := by decide +kernel
theorem d3_166 : decode method_3_code 166 = .ok (.sipush 8591, 3) := by decide +kernel
theorem d3_169 : decode method_3_code 169 = .ok (.invokestatic 7, 3) := by decide +kernel
theorem d3_172 : decode method_3_code 172 = .ok (.ifCond .ne 50, 3) := by decide +kernel
theorem d3_175 : decode method_3_code 175 = .ok (.iload_n 0, 1) := by decide +kernel
theorem d3_176 : decode method_3_code 176 = .ok (.sipush 11264, 3) := by decide +kernel
theorem d3_179 : decode method_3_code 179 = .ok (.sipush 12271, 3) := by decide +kernel
theorem d3_182 : decode method_3_code 182 = .ok (.invokestatic 7, 3) := by decide +kernel
theorem d3_185 : decode method_3_code 185 = .ok (.ifCond .ne 37, 3) := by decide +kernel
theorem d3_188 : decode method_3_code 188 = .ok (.iload_n 0, 1) := by decide +kernel
theorem d3_189 : decode method_3_code 189 = .ok (.sipush 12289, 3) := by decide +kernel
theorem d3_192 : decode method_3_code 192 = .ok (.ldc 14, 2) := by decide +kernel
theorem d3_194 : decode method_3_code 194 = .ok (.invokestatic 7, 3) := by decide +kernel
theorem d3_197 : decode method_3_code 197 = .ok (.ifCond .ne 25, 3) := by decide +kernel
theorem d3_200 : decode method_3_code 200 = .ok (.iload_n 0, 1) := by decide +kernel
theorem d3_201 : decode method_3_code 201 = .ok (.ldc 15, 2) := by decide +kernel
theorem d3_203 : decode method_3_code 203 = .ok (.ldc 16, 2) := by decide +kernel
theorem d3_205 : decode method_3_code 205 = .ok (.invokestatic 7, 3) := by decide +kernel
theorem d3_208 : decode method_3_code 208 = .ok (.ifCond .ne 14, 3) := by decide +kernel
theorem d3_211 : decode method_3_code 211 = .ok (.iload_n 0, 1) := by decide +kernel
theorem d3_212 : decode method_3_code 212 = .ok (.ldc 17, 2) := by decide +kernel
theorem d3_214 : decode method_3_code 214 = .ok (.ldc 18, 2) := by decide +kernel
theorem d3_216 : decode method_3_code 216 = .ok (.invokestatic 7, 3) := by decide +kernel
theorem d3_219 : decode method_3_code 219 = .ok (.ifCond .eq 7, 3) := by decide +kernel
theorem d3_222 : decode method_3_code 222 = .ok (.iconst 1, 1) := by decide +kernel
theorem d3_223 : decode method_3_code 223 = .ok (.goto 4, 3) := by decide +kernel
theorem d3_226 : decode method_3_code 226 = .ok (.iconst 0, 1) := by decide +kernel
theorem d3_227 : decode method_3_code 227 = .ok (.ireturn, 1) := by decide +kernel
theorem d3_228 : decode method_3_code 228 = .ok (.iload_n 0, 1) := by decide +kernel
theorem d3_229 : decode method_3_code 229 = .ok (.ldc 19, 2) := by decide +kernel
theorem d3_231 : decode method_3_code 231 = .ok (.if_icmp .gt 7, 3) := by decide +kernel
theorem d3_234 : decode method_3_code 234 = .ok (.iconst 1, 1) := by decide +kernel
theorem d3_235 : decode method_3_code 235 = .ok (.goto 4, 3) := by decide +kernel
theorem d3_238 : decode method_3_code 238 = .ok (.iconst 0, 1) := by decide +kernel
theorem d3_239 : decode method_3_code 239 = .ok (.ireturn, 1) := by decide +kernel
theorem pn_3 : plainFor (⟨"com/example/hornbeam/hornbeam/rdf/NameCharactersIsPnCharsPinLaw", "ref", "(I)Z"⟩ : MethodName) = true := plainFor_of_name (by first | (simp [plainName, overriddenIn]; done) | decide +kernel)
theorem ef_3 (m : MethodId) (x0 : Int32) : entryFrame m #[(.int x0)] 1 = mkF m 0 #[.val (.int x0)] [] := by first | (simp [entryFrame, mkF, argsToLocals, Value.category]; done) | rfl
set_option maxRecDepth 65536 in
set_option maxHeartbeats 40000000 in
theorem rm3 (l : Launch) (Z : State) (tA : Array Value) (hw : ∀ d ∈ tables_1, d.before tA Z = true) (p0 : Int32) (h0 : Heap) :
    own_Met l Z (⟨"com/example/hornbeam/hornbeam/rdf/NameCharactersIsPnCharsPinLaw", "ref", "(I)Z"⟩ : MethodName) method_3_code 1 (some .boolean) ({ frames := 1, cells := 0, slots := 0, locals := 14 } : Room) #[(.int p0)] h0 (own_P (some (.int (own_r_0 p0))) h0) := by
  refine own_body pn_3 ?_
  intro p e s m below meth c s₁ X0 hx hZ hby hml hown hret hlk hnm e0
  have B238 : ∀ (T0 : State), Stand p l e ({ frames := 1, cells := 0, slots := 0, locals := 14 } : Room) s m #[(.int p0)] below meth c T0 [] 0 0 → T0.heap = h0 → own_r_238 p0 = own_r_0 p0 → own_Go p e below (own_Post s (own_P (some (.int (own_r_0 p0))) h0) ({ frames := 1, cells := 0, slots := 0, locals := 14 } : Room).cells ({ frames := 1, cells := 0, slots := 0, locals := 14 } : Room).slots) (T0.setTop (mkF m 238 #[.val (.int p0)] [])) := by
    intro T0 X0 e0 hbk
    show own_Go p e below _ (T0.setTop (mkF m 238 #[.val (.int p0)] []))
    refine own_st (fun _ k => XS.iconst X0.here hx rfl (hb hby d3_238) k) ?_
    show own_Go p e below _ (T0.setTop (mkF m 239 #[.val (.int p0)] [(.int (0 : Int32))]))
    exact own_retZ X0 hx hlk hret rfl (hb hby d3_239) ⟨congrArg (fun z => some (Value.int z)) ((show own_r_238 p0 = (0 : Int32) from rfl).symm.trans hbk), rfl, e0⟩ (by decide) (by decide)
  have B228 : ∀ (T0 : State), Stand p l e ({ frames := 1, cells := 0, slots := 0, locals := 14 } : Room) s m #[(.int p0)] below meth c T0 [] 0 0 → T0.heap = h0 → own_r_228 p0 = own_r_0 p0 → own_Go p e below (own_Post s (own_P (some (.int (own_r_0 p0))) h0) ({ frames := 1, cells := 0, slots := 0, locals := 14 } : Room).cells ({ frames := 1, cells := 0, slots := 0, locals := 14 } : Room).slots) (T0.setTop (mkF m 228 #[.val (.int p0)] [])) := by
    intro T0 X0 e0 hbk
    show own_Go p e below _ (T0.setTop (mkF m 228 #[.val (.int p0)] []))
    refine own_st (fun _ k => XS.iloadN X0.here hx rfl (hb hby d3_228) rfl k) ?_
    show own_Go p e below _ (T0.setTop (mkF m 229 #[.val (.int p0)] [(.int p0)]))
    refine own_st (fun _ k => X0.ldcInt hx hown (mvT hZ (hw _ (List.mem_of_getElem? (i := 7) rfl))) (g := (mkF m 229 #[.val (.int p0)] [(.int p0)])) rfl (hb hby d3_229) _ k) ?_
    show own_Go p e below _ (T0.setTop (mkF m 231 #[.val (.int p0)] [(.int (983039 : Int32)), (.int p0)]))
    by_cases hc231 : (983039 : Int32) < p0
    · refine own_st (fun _ k => XS.icmpYes X0.here hx rfl (pc0 := 231) (pc' := 238) rfl (hb hby d3_231) rfl ((own_i2 _ _ _).trans (own_yes (hc231 : (983039 : Int32) < p0))) (by decide) (by decide) k) ?_
      show own_Go p e below _ (T0.setTop (mkF m 238 #[.val (.int p0)] []))
      exact B238 T0 X0 e0 ((show own_r_228 p0 = own_r_238 p0 from (if_pos hc231)).symm.trans hbk)
    · refine own_st (fun _ k => XS.icmpNo X0.here hx rfl (hb hby d3_231) rfl ((own_i2 _ _ _).trans (own_no (hc231 : ¬ ((983039 : Int32) < p0)))) k) ?_
      show own_Go p e below _ (T0.setTop (mkF m 234 #[.val (.int p0)] []))
      refine own_st (fun _ k => XS.iconst X0.here hx rfl (hb hby d3_234) k) ?_
      show own_Go p e below _ (T0.setTop (mkF m 235 #[.val (.int p0)] [(.int (1 : Int32))]))
      refine own_st (fun _ k => XS.goto X0.here hx rfl (pc0 := 235) (pc' := 239) rfl (hb hby d3_235) (by decide) (by decide) k) ?_
      show own_Go p e below _ (T0.setTop (mkF m 239 #[.val (.int p0)] [(.int (1 : Int32))]))
      exact own_retZ X0 hx hlk hret rfl (hb hby d3_239) ⟨congrArg (fun z => some (Value.int z)) ((show own_r_228 p0 = (1 : Int32) from (if_neg hc231)).symm.trans hbk), rfl, e0⟩ (by decide) (by decide)
  have B226 : ∀ (T0 : State), Stand p l e ({ frames := 1, cells := 0, slots := 0, locals := 14 } : Room) s m #[(.int p0)] below meth c T0 [] 0 0 → T0.heap = h0 → own_r_226 p0 = own_r_0 p0 → own_Go p e below (own_Post s (own_P (some (.int (own_r_0 p0))) h0) ({ frames := 1, cells := 0, slots := 0, locals := 14 } : Room).cells ({ frames := 1, cells := 0, slots := 0, locals := 14 } : Room).slots) (T0.setTop (mkF m 226 #[.val (.int p0)] [])) := by
    intro T0 X0 e0 hbk
    show own_Go p e below _ (T0.setTop (mkF m 226 #[.val (.int p0)] []))
    refine own_st (fun _ k => XS.iconst X0.here hx rfl (hb hby d3_226) k) ?_
    show own_Go p e below _ (T0.setTop (mkF m 227 #[.val (.int p0)] [(.int (0 : Int32))]))
    exact own_retZ X0 hx hlk hret rfl (hb hby d3_227) ⟨congrArg (fun z => some (Value.int z)) ((show own_r_226 p0 = (0 : Int32) from rfl).symm.trans hbk), rfl, e0⟩ (by decide) (by decide)
  have B222 : ∀ (T0 : State), Stand p l e ({ frames := 1, cells := 0, slots := 0, locals := 14 } : Room) s m #[(.int p0)] below meth c T0 [] 0 0 → T0.heap = h0 → own_r_222 p0 = own_r_0 p0 → own_Go p e below (own_Post s (own_P (some (.int (own_r_0 p0))) h0) ({ frames := 1, cells := 0, slots := 0, locals := 14 } : Room).cells ({ frames := 1, cells := 0, slots := 0, locals := 14 } : Room).slots) (T0.setTop (mkF m 222 #[.val (.int p0)] [])) := by
    intro T0 X0 e0 hbk
    show own_Go p e below _ (T0.setTop (mkF m 222 #[.val (.int p0)] []))
    refine own_st (fun _ k => XS.iconst X0.here hx rfl (hb hby d3_222) k) ?_
    show own_Go p e below _ (T0.setTop (mkF m 223 #[.val (.int p0)] [(.int (1 : Int32))]))
    refine own_st (fun _ k => XS.goto X0.here hx rfl (pc0 := 223) (pc' := 227) rfl (hb hby d3_223) (by decide) (by decide) k) ?_
    show own_Go p e below _ (T0.setTop (mkF m 227 #[.val (.int p0)] [(.int (1 : Int32))]))
    exact own_retZ X0 hx hlk hret rfl (hb hby d3_227) ⟨congrArg (fun z => some (Value.int z)) ((show own_r_222 p0 = (1 : Int32) from rfl).symm.trans hbk), rfl, e0⟩ (by decide) (by decide)
  have B130 : ∀ (T0 : State), Stand p l e ({ frames := 1, cells := 0, slots := 0, locals := 14 } : Room) s m #[(.int p0)] below meth c T0 [] 0 0 → T0.heap = h0 → own_r_130 p0 = own_r_0 p0 → own_Go p e below (own_Post s (own_P (some (.int (own_r_0 p0))) h0) ({ frames := 1, cells := 0, slots := 0, locals := 14 } : Room).cells ({ frames := 1, cells := 0, slots := 0, locals := 14 } : Room).slots) (T0.setTop (mkF m 130 #[.val (.int p0)] [])) := by
    intro T0 X0 e0 hbk
    show own_Go p e below _ (T0.setTop (mkF m 130 #[.val (.int p0)] []))
    refine own_st (fun _ k => XS.iloadN X0.here hx rfl (hb hby d3_130) rfl k) ?_
    show own_Go p e below _ (T0.setTop (mkF m 131 #[.val (.int p0)] [(.int p0)]))
    refine own_st (fun _ k => X0.ldcInt hx hown (mvT hZ (hw _ (List.mem_of_getElem? (i := 6) rfl))) (g := (mkF m 131 #[.val (.int p0)] [(.int p0)])) rfl (hb hby d3_131) _ k) ?_
    show own_Go p e below _ (T0.setTop (mkF m 133 #[.val (.int p0)] [(.int (65536 : Int32)), (.int p0)]))
    by_cases hc133 : p0 < (65536 : Int32)
    · refine own_st (fun _ k => XS.icmpNo X0.here hx rfl (hb hby d3_133) rfl ((own_i2 _ _ _).trans (own_nyes (hc133 : p0 < (65536 : Int32)))) k) ?_
      show own_Go p e below _ (T0.setTop (mkF m 136 #[.val (.int p0)] []))
      refine own_st (fun _ k => XS.iloadN X0.here hx rfl (hb hby d3_136) rfl k) ?_
      show own_Go p e below _ (T0.setTop (mkF m 137 #[.val (.int p0)] [(.int p0)]))
      refine own_st (fun _ k => XS.sipush X0.here hx rfl (hb hby d3_137) k) ?_
      show own_Go p e below _ (T0.setTop (mkF m 140 #[.val (.int p0)] [(.int (8204 : Int32)), (.int p0)]))
      refine own_st (fun _ k => XS.sipush X0.here hx rfl (hb hby d3_140) k) ?_
      show own_Go p e below _ (T0.setTop (mkF m 143 #[.val (.int p0)] [(.int (8205 : Int32)), (.int (8204 : Int32)), (.int p0)]))
      obtain ⟨_, T1, _, X1, ⟨rfl, rfl, e1⟩, st1⟩ := own_callS X0 hx hZ (y := (⟨"com/example/hornbeam/hornbeam/rdf/NameCharactersIsPnCharsPinLaw", "in", "(III)Z"⟩ : MethodName)) (argsL := [(.int p0), (.int (8204 : Int32)), (.int (8205 : Int32))]) (rest := []) (W := 0) (g := (mkF m 143 #[.val (.int p0)] [(.int (8205 : Int32)), (.int (8204 : Int32)), (.int p0)])) (rm4 l Z tA hw p0 (8204 : Int32) (8205 : Int32) h0) hown (hw _ (List.mem_of_getElem? (i := 23) rfl)) (hw _ (List.mem_of_getElem? (i := 24) rfl)) (hw _ (List.mem_of_getElem? (i := 21) rfl)) (hw _ (List.mem_of_getElem? (i := 25) rfl)) (by decide) e0 rfl (by rw [hml]; rfl) pd_1 rfl rfl (by show 2 * 0 + _ ≤ _; exact Nat.le_of_eq rfl) (hb hby d3_143) (by decide) (by decide) (by decide) (by decide)
      replace X1 := own_flat X1
      refine own_st st1 ?_
      show own_Go p e below _ (T1.setTop (mkF m 146 #[.val (.int p0)] [(.int (own_in_0 p0 (8204 : Int32) (8205 : Int32)))]))
      by_cases hc146 : (own_in_0 p0 (8204 : Int32) (8205 : Int32)) = (0 : Int32)
      · refine own_st (fun _ k => XS.ifNo X1.here hx rfl (hb hby d3_146) rfl ((own_i0 _ _).trans (own_nyes (hc146 : (own_in_0 p0 (8204 : Int32) (8205 : Int32)) = (0 : Int32)))) k) ?_
        show own_Go p e below _ (T1.setTop (mkF m 149 #[.val (.int p0)] []))
        refine own_st (fun _ k => XS.iloadN X1.here hx rfl (hb hby d3_149) rfl k) ?_
        show own_Go p e below _ (T1.setTop (mkF m 150 #[.val (.int p0)] [(.int p0)]))
        refine own_st (fun _ k => XS.sipush X1.here hx rfl (hb hby d3_150) k) ?_
        show own_Go p e below _ (T1.setTop (mkF m 153 #[.val (.int p0)] [(.int (8255 : Int32)), (.int p0)]))
        refine own_st (fun _ k => XS.sipush X1.here hx rfl (hb hby d3_153) k) ?_
        show own_Go p e below _ (T1.setTop (mkF m 156 #[.val (.int p0)] [(.int (8256 : Int32)), (.int (8255 : Int32)), (.int p0)]))
        obtain ⟨_, T2, _, X2, ⟨rfl, rfl, e2⟩, st2⟩ := own_callS X1 hx hZ (y := (⟨"com/example/hornbeam/hornbeam/rdf/NameCharactersIsPnCharsPinLaw", "in", "(III)Z"⟩ : MethodName)) (argsL := [(.int p0), (.int (8255 : Int32)), (.int (8256 : Int32))]) (rest := []) (W := 0) (g := (mkF m 156 #[.val (.int p0)] [(.int (8256 : Int32)), (.int (8255 : Int32)), (.int p0)])) (rm4 l Z tA hw p0 (8255 : Int32) (8256 : Int32) h0) hown (hw _ (List.mem_of_getElem? (i := 23) rfl)) (hw _ (List.mem_of_getElem? (i := 24) rfl)) (hw _ (List.mem_of_getElem? (i := 21) rfl)) (hw _ (List.mem_of_getElem? (i := 25) rfl)) (by decide) e1 rfl (by rw [hml]; rfl) pd_1 rfl rfl (by show 2 * 0 + _ ≤ _; exact Nat.le_of_eq rfl) (hb hby d3_156) (by decide) (by decide) (by decide) (by decide)
        replace X2 := own_flat X2
        refine own_st st2 ?_
        show own_Go p e below _ (T2.setTop (mkF m 159 #[.val (.int p0)] [(.int (own_in_0 p0 (8255 : Int32) (8256 : Int32)))]))
        by_cases hc159 : (own_in_0 p0 (8255 : Int32) (8256 : Int32)) = (0 : Int32)
        · refine own_st (fun _ k => XS.ifNo X2.here hx rfl (hb hby d3_159) rfl ((own_i0 _ _).trans (own_nyes (hc159 : (own_in_0 p0 (8255 : Int32) (8256 : Int32)) = (0 : Int32)))) k) ?_
          show own_Go p e below _ (T2.setTop (mkF m 162 #[.val (.int p0)] []))
          refine own_st (fun _ k => XS.iloadN X2.here hx rfl (hb hby d3_162) rfl k) ?_
          show own_Go p e below _ (T2.setTop (mkF m 163 #[.val (.int p0)] [(.int p0)]))
          refine own_st (fun _ k => XS.sipush X2.here hx rfl (hb hby d3_163) k) ?_
          show own_Go p e below _ (T2.setTop (mkF m 166 #[.val (.int p0)] [(.int (8304 : Int32)), (.int p0)]))
          refine own_st (fun _ k => XS.sipush X2.here hx rfl (hb hby d3_166) k) ?_
          show own_Go p e below _ (T2.setTop (mkF m 169 #[.val (.int p0)] [(.int (8591 : Int32)), (.int (8304 : Int32)), (.int p0)]))
          obtain ⟨_, T3, _, X3, ⟨rfl, rfl, e3⟩, st3⟩ := own_callS X2 hx hZ (y := (⟨"com/example/hornbeam/hornbeam/rdf/NameCharactersIsPnCharsPinLaw", "in", "(III)Z"⟩ : MethodName)) (argsL := [(.int p0), (.int (8304 : Int32)), (.int (8591 : Int32))]) (rest := []) (W := 0) (g := (mkF m 169 #[.val (.int p0)] [(.int (8591 : Int32)), (.int (8304 : Int32)), (.int p0)])) (rm4 l Z tA hw p0 (8304 : Int32) (8591 : Int32) h0) hown (hw _ (List.mem_of_getElem? (i := 23) rfl)) (hw _ (List.mem_of_getElem? (i := 24) rfl)) (hw _ (List.mem_of_getElem? (i := 21) rfl)) (hw _ (List.mem_of_getElem? (i := 25) rfl)) (by decide) e2 rfl (by rw [hml]; rfl) pd_1 rfl rfl (by show 2 * 0 + _ ≤ _; exact Nat.le_of_eq rfl) (hb hby d3_169) (by decide) (by decide) (by decide) (by decide)
          replace X3 := own_flat X3
          refine own_st st3 ?_
          show own_Go p e below _ (T3.setTop (mkF m 172 #[.val (.int p0)] [(.int (own_in_0 p0 (8304 : Int32) (8591 : Int32)))]))
          by_cases hc172 : (own_in_0 p0 (8304 : Int32) (8591 : Int32)) = (0 : Int32)
          · refine own_st (fun _ k => XS.ifNo X3.here hx rfl (hb hby d3_172) rfl ((own_i0 _ _).trans (own_nyes (hc172 : (own_in_0 p0 (8304 : Int32) (8591 : Int32)) = (0 : Int32)))) k) ?_
            show own_Go p e below _ (T3.setTop (mkF m 175 #[.val (.int p0)] []))
            refine own_st (fun _ k => XS.iloadN X3.here hx rfl (hb hby d3_175) rfl k) ?_
            show own_Go p e below _ (T3.setTop (mkF m 176 #[.val (.int p0)] [(.int p0)]))
            refine own_st (fun _ k => XS.sipush X3.here hx rfl (hb hby d3_176) k) ?_
            show own_Go p e below _ (T3.setTop (mkF m 179 #[.val (.int p0)] [(.int (11264 : Int32)), (.int p0)]))
            refine own_st (fun _ k => XS.sipush X3.here hx rfl (hb hby d3_179) k) ?_
            show own_Go p e below _ (T3.setTop (mkF m 182 #[.val (.int p0)] [(.int (12271 : Int32)), (.int (11264 : Int32)), (.int p0)]))
            obtain ⟨_, T4, _, X4, ⟨rfl, rfl, e4⟩, st4⟩ := own_callS X3 hx hZ (y := (⟨"com/example/hornbeam/hornbeam/rdf/NameCharactersIsPnCharsPinLaw", "in", "(III)Z"⟩ : MethodName)) (argsL := [(.int p0), (.int (11264 : Int32)), (.int (12271 : Int32))]) (rest := []) (W := 0) (g := (mkF m 182 #[.val (.int p0)] [(.int (12271 : Int32)), (.int (11264 : Int32)), (.int p0)])) (rm4 l Z tA hw p0 (11264 : Int32) (12271 : Int32) h0) hown (hw _ (List.mem_of_getElem? (i := 23) rfl)) (hw _ (List.mem_of_getElem? (i := 24) rfl)) (hw _ (List.mem_of_getElem? (i := 21) rfl)) (hw _ (List.mem_of_getElem? (i := 25) rfl)) (by decide) e3 rfl (by rw [hml]; rfl) pd_1 rfl rfl (by show 2 * 0 + _ ≤ _; exact Nat.le_of_eq rfl) (hb hby d3_182) (by decide) (by decide) (by decide) (by decide)
            replace X4 := own_flat X4
            refine own_st st4 ?_
            show own_Go p e below _ (T4.setTop (mkF m 185 #[.val (.int p0)] [(.int (own_in_0 p0 (11264 : Int32) (12271 : Int32)))]))
            by_cases hc185 : (own_in_0 p0 (11264 : Int32) (12271 : Int32)) = (0 : Int32)
            · refine own_st (fun _ k => XS.ifNo X4.here hx rfl (hb hby d3_185) rfl ((own_i0 _ _).trans (own_nyes (hc185 : (own_in_0 p0 (11264 : Int32) (12271 : Int32)) = (0 : Int32)))) k) ?_
              show own_Go p e below _ (T4.setTop (mkF m 188 #[.val (.int p0)] []))
              refine own_st (fun _ k => XS.iloadN X4.here hx rfl (hb hby d3_188) rfl k) ?_
              show own_Go p e below _ (T4.setTop (mkF m 189 #[.val (.int p0)] [(.int p0)]))
              refine own_st (fun _ k => XS.sipush X4.here hx rfl (hb hby d3_189) k) ?_
              show own_Go p e below _ (T4.setTop (mkF m 192 #[.val (.int p0)] [(.int (12289 : Int32)), (.int p0)]))
              refine own_st (fun _ k => X4.ldcInt hx hown (mvT hZ (hw _ (List.mem_of_getElem? (i := 1) rfl))) (g := (mkF m 192 #[.val (.int p0)] [(.int (12289 : Int32)), (.int p0)])) rfl (hb hby d3_192) _ k) ?_
              show own_Go p e below _ (T4.setTop (mkF m 194 #[.val (.int p0)] [(.int (55295 : Int32)), (.int (12289 : Int32)), (.int p0)]))
              obtain ⟨_, T5, _, X5, ⟨rfl, rfl, e5⟩, st5⟩ := own_callS X4 hx hZ (y := (⟨"com/example/hornbeam/hornbeam/rdf/NameCharactersIsPnCharsPinLaw", "in", "(III)Z"⟩ : MethodName)) (argsL := [(.int p0), (.int (12289 : Int32)), (.int (55295 : Int32))]) (rest := []) (W := 0) (g := (mkF m 194 #[.val (.int p0)] [(.int (55295 : Int32)), (.int (12289 : Int32)), (.int p0)])) (rm4 l Z tA hw p0 (12289 : Int32) (55295 : Int32) h0) hown (hw _ (List.mem_of_getElem? (i := 23) rfl)) (hw _ (List.mem_of_getElem? (i := 24) rfl)) (hw _ (List.mem_of_getElem? (i := 21) rfl)) (hw _ (List.mem_of_getElem? (i := 25) rfl)) (by decide) e4 rfl (by rw [hml]; rfl) pd_1 rfl rfl (by show 2 * 0 + _ ≤ _; exact Nat.le_of_eq rfl) (hb hby d3_194) (by decide) (by decide) (by decide) (by decide)
              replace X5 := own_flat X5
              refine own_st st5 ?_
              show own_Go p e below _ (T5.setTop (mkF m 197 #[.val (.int p0)] [(.int (own_in_0 p0 (12289 : Int32) (55295 : Int32)))]))
              by_cases hc197 : (own_in_0 p0 (12289 : Int32) (55295 : Int32)) = (0 : Int32)
              · refine own_st (fun _ k => XS.ifNo X5.here hx rfl (hb hby d3_197) rfl ((own_i0 _ _).trans (own_nyes (hc197 : (own_in_0 p0 (12289 : Int32) (55295 : Int32)) = (0 : Int32)))) k) ?_
                show own_Go p e below _ (T5.setTop (mkF m 200 #[.val (.int p0)] []))
                refine own_st (fun _ k => XS.iloadN X5.here hx rfl (hb hby d3_200) rfl k) ?_
                show own_Go p e below _ (T5.setTop (mkF m 201 #[.val (.int p0)] [(.int p0)]))
                refine own_st (fun _ k => X5.ldcInt hx hown (mvT hZ (hw _ (List.mem_of_getElem? (i := 2) rfl))) (g := (mkF m 201 #[.val (.int p0)] [(.int p0)])) rfl (hb hby d3_201) _ k) ?_
                show own_Go p e below _ (T5.setTop (mkF m 203 #[.val (.int p0)] [(.int (63744 : Int32)), (.int p0)]))
                refine own_st (fun _ k => X5.ldcInt hx hown (mvT hZ (hw _ (List.mem_of_getElem? (i := 3) rfl))) (g := (mkF m 203 #[.val (.int p0)] [(.int (63744 : Int32)), (.int p0)])) rfl (hb hby d3_203) _ k) ?_
                show own_Go p e below _ (T5.setTop (mkF m 205 #[.val (.int p0)] [(.int (64975 : Int32)), (.int (63744 : Int32)), (.int p0)]))
                obtain ⟨_, T6, _, X6, ⟨rfl, rfl, e6⟩, st6⟩ := own_callS X5 hx hZ (y := (⟨"com/example/hornbeam/hornbeam/rdf/NameCharactersIsPnCharsPinLaw", "in", "(III)Z"⟩ : MethodName)) (argsL := [(.int p0), (.int (63744 : Int32)), (.int (64975 : Int32))]) (rest := []) (W := 0) (g := (mkF m 205 #[.val (.int p0)] [(.int (64975 : Int32)), (.int (63744 : Int32)), (.int p0)])) (rm4 l Z tA hw p0 (63744 : Int32) (64975 : Int32) h0) hown (hw _ (List.mem_of_getElem? (i := 23) rfl)) (hw _ (List.mem_of_getElem? (i := 24) rfl)) (hw _ (List.mem_of_getElem? (i := 21) rfl)) (hw _ (List.mem_of_getElem? (i := 25) rfl)) (by decide) e5 rfl (by rw [hml]; rfl) pd_1 rfl rfl (by show 2 * 0 + _ ≤ _; exact Nat.le_of_eq rfl) (hb hby d3_205) (by decide) (by decide) (by decide) (by decide)
                replace X6 := own_flat X6
                refine own_st st6 ?_
                show own_Go p e below _ (T6.setTop (mkF m 208 #[.val (.int p0)] [(.int (own_in_0 p0 (63744 : Int32) (64975 : Int32)))]))
                by_cases hc208 : (own_in_0 p0 (63744 : Int32) (64975 : Int32)) = (0 : Int32)
                · refine own_st (fun _ k => XS.ifNo X6.here hx rfl (hb hby d3_208) rfl ((own_i0 _ _).trans (own_nyes (hc208 : (own_in_0 p0 (63744 : Int32) (64975 : Int32)) = (0 : Int32)))) k) ?_
                  show own_Go p e below _ (T6.setTop (mkF m 211 #[.val (.int p0)] []))
                  refine own_st (fun _ k => XS.iloadN X6.here hx rfl (hb hby d3_211) rfl k) ?_
                  show own_Go p e below _ (T6.setTop (mkF m 212 #[.val (.int p0)] [(.int p0)]))
                  refine own_st (fun _ k => X6.ldcInt hx hown (mvT hZ (hw _ (List.mem_of_getElem? (i := 4) rfl))) (g := (mkF m 212 #[.val (.int p0)] [(.int p0)])) rfl (hb hby d3_212) _ k) ?_
                  show own_Go p e below _ (T6.setTop (mkF m 214 #[.val (.int p0)] [(.int (65008 : Int32)), (.int p0)]))
                  refine own_st (fun _ k => X6.ldcInt hx hown (mvT hZ (hw _ (List.mem_of_getElem? (i := 5) rfl))) (g := (mkF m 214 #[.val (.int p0)] [(.int (65008 : Int32)), (.int p0)])) rfl (hb hby d3_214) _ k) ?_
                  show own_Go p e below _ (T6.setTop (mkF m 216 #[.val (.int p0)] [(.int (65533 : Int32)), (.int (65008 : Int32)), (.int p0)]))
                  obtain ⟨_, T7, _, X7, ⟨rfl, rfl, e7⟩, st7⟩ := own_callS X6 hx hZ (y := (⟨"com/example/hornbeam/hornbeam/rdf/NameCharactersIsPnCharsPinLaw", "in", "(III)Z"⟩ : MethodName)) (argsL := [(.int p0), (.int (65008 : Int32)), (.int (65533 : Int32))]) (rest := []) (W := 0) (g := (mkF m 216 #[.val (.int p0)] [(.int (65533 : Int32)), (.int (65008 : Int32)), (.int p0)])) (rm4 l Z tA hw p0 (65008 : Int32) (65533 : Int32) h0) hown (hw _ (List.mem_of_getElem? (i := 23) rfl)) (hw _ (List.mem_of_getElem? (i := 24) rfl)) (hw _ (List.mem_of_getElem? (i := 21) rfl)) (hw _ (List.mem_of_getElem? (i := 25) rfl)) (by decide) e6 rfl (by rw [hml]; rfl) pd_1 rfl rfl (by show 2 * 0 + _ ≤ _; exact Nat.le_of_eq rfl) (hb hby d3_216) (by decide) (by decide) (by decide) (by decide)
                  replace X7 := own_flat X7
                  refine own_st st7 ?_
                  show own_Go p e below _ (T7.setTop (mkF m 219 #[.val (.int p0)] [(.int (own_in_0 p0 (65008 : Int32) (65533 : Int32)))]))
                  by_cases hc219 : (own_in_0 p0 (65008 : Int32) (65533 : Int32)) = (0 : Int32)
                  · refine own_st (fun _ k => XS.ifYes X7.here hx rfl (pc0 := 219) (pc' := 226) rfl (hb hby d3_219) rfl ((own_i0 _ _).trans (own_yes (hc219 : (own_in_0 p0 (65008 : Int32) (65533 : Int32)) = (0 : Int32)))) (by decide) (by decide) k) ?_
                    show own_Go p e below _ (T7.setTop (mkF m 226 #[.val (.int p0)] []))
                    exact B226 T7 X7 e7 ((show own_r_130 p0 = own_r_226 p0 from ((if_pos hc133)).trans (((if_pos hc146)).trans (((if_pos hc159)).trans (((if_pos hc172)).trans (((if_pos hc185)).trans (((if_pos hc197)).trans (((if_pos hc208)).trans ((if_pos hc219))))))))).symm.trans hbk)
                  · refine own_st (fun _ k => XS.ifNo X7.here hx rfl (hb hby d3_219) rfl ((own_i0 _ _).trans (own_no (hc219 : ¬ ((own_in_0 p0 (65008 : Int32) (65533 : Int32)) = (0 : Int32))))) k) ?_
                    show own_Go p e below _ (T7.setTop (mkF m 222 #[.val (.int p0)] []))
                    exact B222 T7 X7 e7 ((show own_r_130 p0 = own_r_222 p0 from ((if_pos hc133)).trans (((if_pos hc146)).trans (((if_pos hc159)).trans (((if_pos hc172)).trans (((if_pos hc185)).trans (((if_pos hc197)).trans (((if_pos hc208)).trans ((if_neg hc219))))))))).symm.trans hbk)
                · refine own_st (fun _ k => XS.ifYes X6.here hx rfl (pc0 := 208) (pc' := 222) rfl (hb hby d3_208) rfl ((own_i0 _ _).trans (own_nno (hc208 : ¬ ((own_in_0 p0 (63744 : Int32) (64975 : Int32)) = (0 : Int32))))) (by decide) (by decide) k) ?_
                  show own_Go p e below _ (T6.setTop (mkF m 222 #[.val (.int p0)] []))
                  exact B222 T6 X6 e6 ((show own_r_130 p0 = own_r_222 p0 from ((if_pos hc133)).trans (((if_pos hc146)).trans (((if_pos hc159)).trans (((if_pos hc172)).trans (((if_pos hc185)).trans (((if_pos hc197)).trans ((if_neg hc208)))))))).symm.trans hbk)
              · refine own_st (fun _ k => XS.ifYes X5.here hx rfl (pc0 := 197) (pc' := 222) rfl (hb hby d3_197) rfl ((own_i0 _ _).trans (own_nno (hc197 : ¬ ((own_in_0 p0 (12289 : Int32) (55295 : Int32)) = (0 : Int32))))) (by decide) (by decide) k) ?_
                show own_Go p e below _ (T5.setTop (mkF m 222 #[.val (.int p0)] []))
                exact B222 T5 X5 e5 ((show own_r_130 p0 = own_r_222 p0 from ((if_pos hc133)).trans (((if_pos hc146)).trans (((if_pos hc159)).trans (((if_pos hc172)).trans (((if_pos hc185)).trans ((if_neg hc197))))))).symm.trans hbk)
            · refine own_st (fun _ k => XS.ifYes X4.here hx rfl (pc0 := 185) (pc' := 222) rfl (hb hby d3_185) rfl ((own_i0 _ _).trans (own_nno (hc185 : ¬ ((own_in_0 p0 (11264 : Int32) (12271 : Int32)) = (0 : Int32))))) (by decide) (by decide) k) ?_
              show own_Go p e below _ (T4.setTop (mkF m 222 #[.val (.int p0)] []))
              exact B222 T4 X4 e4 ((show own_r_130 p0 = own_r_222 p0 from ((if_pos hc133)).trans (((if_pos hc146)).trans (((if_pos hc159)).trans (((if_pos hc172)).trans ((if_neg hc185)))))).symm.trans hbk)
          · refine own_st (fun _ k => XS.ifYes X3.here hx rfl (pc0 := 172) (pc' := 222) rfl (hb hby d3_172) rfl ((own_i0 _ _).trans (own_nno (hc172 : ¬ ((own_in_0 p0 (8304 : Int32) (8591 : Int32)) = (0 : Int32))))) (by decide) (by decide) k) ?_
            show own_Go p e below _ (T3.setTop (mkF m 222 #[.val (.int p0)] []))
            exact B222 T3 X3 e3 ((show own_r_130 p0 = own_r_222 p0 from ((if_pos hc133)).trans (((if_pos hc146)).trans (((if_pos hc159)).trans ((if_neg hc172))))).symm.trans hbk)
        · refine own_st (fun _ k => XS.ifYes X2.here hx rfl (pc0 := 159) (pc' := 222) rfl (hb hby d3_159) rfl ((own_i0 _ _).trans (own_nno (hc159 : ¬ ((own_in_0 p0 (8255 : Int32) (8256 : Int32)) = (0 : Int32))))) (by decide) (by decide) k) ?_
          show own_Go p e below _ (T2.setTop (mkF m 222 #[.val (.int p0)] []))
          exact B222 T2 X2 e2 ((show own_r_130 p0 = own_r_222 p0 from ((if_pos hc133)).trans (((if_pos hc146)).trans ((if_neg hc159)))).symm.trans hbk)
      · refine own_st (fun _ k => XS.ifYes X1.here hx rfl (pc0 := 146) (pc' := 222) rfl (hb hby d3_146) rfl ((own_i0 _ _).trans (own_nno (hc146 : ¬ ((own_in_0 p0 (8204 : Int32) (8205 : Int32)) = (0 : Int32))))) (by decide) (by decide) k) ?_
        show own_Go p e below _ (T1.setTop (mkF m 222 #[.val (.int p0)] []))
        exact B222 T1 X1 e1 ((show own_r_130 p0 = own_r_222 p0 from ((if_pos hc133)).trans ((if_neg hc146))).symm.trans hbk)
    · refine own_st (fun _ k => XS.icmpYes X0.here hx rfl (pc0 := 133) (pc' := 228) rfl (hb hby d3_133) rfl ((own_i2 _ _ _).trans (own_nno (hc133 : ¬ (p0 < (65536 : Int32))))) (by decide) (by decide) k) ?_
      show own_Go p e below _ (T0.setTop (mkF m 228 #[.val (.int p0)] []))
      exact B228 T0 X0 e0 ((show own_r_130 p0 = own_r_228 p0 from (if_neg hc133)).symm.trans hbk)
  have B128 : ∀ (T0 : State), Stand p l e ({ frames := 1, cells := 0, slots := 0, locals := 14 } : Room) s m #[(.int p0)] below meth c T0 [] 0 0 → T0.heap = h0 → own_r_128 p0 = own_r_0 p0 → own_Go p e below (own_Post s (own_P (some (.int (own_r_0 p0))) h0) ({ frames := 1, cells := 0, slots := 0, locals := 14 } : Room).cells ({ frames := 1, cells := 0, slots := 0, locals := 14 } : Room).slots) (T0.setTop (mkF m 128 #[.val (.int p0)] [])) := by
    intro T0 X0 e0 hbk
    show own_Go p e below _ (T0.setTop (mkF m 128 #[.val (.int p0)] []))
    refine own_st (fun _ k => XS.iconst X0.here hx rfl (hb hby d3_128) k) ?_
    show own_Go p e below _ (T0.setTop (mkF m 129 #[.val (.int p0)] [(.int (0 : Int32))]))
    exact own_retZ X0 hx hlk hret rfl (hb hby d3_129) ⟨congrArg (fun z => some (Value.int z)) ((show own_r_128 p0 = (0 : Int32) from rfl).symm.trans hbk), rfl, e0⟩ (by decide) (by decide)
  have B124 : ∀ (T0 : State), Stand p l e ({ frames := 1, cells := 0, slots := 0, locals := 14 } : Room) s m #[(.int p0)] below meth c T0 [] 0 0 → T0.heap = h0 → own_r_124 p0 = own_r_0 p0 → own_Go p e below (own_Post s (own_P (some (.int (own_r_0 p0))) h0) ({ frames := 1, cells := 0, slots := 0, locals := 14 } : Room).cells ({ frames := 1, cells := 0, slots := 0, locals := 14 } : Room).slots) (T0.setTop (mkF m 124 #[.val (.int p0)] [])) := by
    intro T0 X0 e0 hbk
    show own_Go p e below _ (T0.setTop (mkF m 124 #[.val (.int p0)] []))
    refine own_st (fun _ k => XS.iconst X0.here hx rfl (hb hby d3_124) k) ?_
    show own_Go p e below _ (T0.setTop (mkF m 125 #[.val (.int p0)] [(.int (1 : Int32))]))
    refine own_st (fun _ k => XS.goto X0.here hx rfl (pc0 := 125) (pc' := 129) rfl (hb hby d3_125) (by decide) (by decide) k) ?_
    show own_Go p e below _ (T0.setTop (mkF m 129 #[.val (.int p0)] [(.int (1 : Int32))]))
    exact own_retZ X0 hx hlk hret rfl (hb hby d3_129) ⟨congrArg (fun z => some (Value.int z)) ((show own_r_124 p0 = (1 : Int32) from rfl).symm.trans hbk), rfl, e0⟩ (by decide) (by decide)
  have B58 : ∀ (T0 : State), Stand p l e ({ frames := 1, cells := 0, slots := 0, locals := 14 } : Room) s m #[(.int p0)] below meth c T0 [] 0 0 → T0.heap = h0 → own_r_58 p0 = own_r_0 p0 → own_Go p e below (own_Post s (own_P (some (.int (own_r_0 p0))) h0) ({ frames := 1, cells := 0, slots := 0, locals := 14 } : Room).cells ({ frames := 1, cells := 0, slots := 0, locals := 14 } : Room).slots) (T0.setTop (mkF m 58 #[.val (.int p0)] [])) := by
    intro T0 X0 e0 hbk
    show own_Go p e below _ (T0.setTop (mkF m 58 #[.val (.int p0)] []))
    refine own_st (fun _ k => XS.iloadN X0.here hx rfl (hb hby d3_58) rfl k) ?_
    show own_Go p e below _ (T0.setTop (mkF m 59 #[.val (.int p0)] [(.int p0)]))
    refine own_st (fun _ k => XS.sipush X0.here hx rfl (hb hby d3_59) k) ?_
    show own_Go p e below _ (T0.setTop (mkF m 62 #[.val (.int p0)] [(.int (8192 : Int32)), (.int p0)]))
    by_cases hc62 : p0 < (8192 : Int32)
    · refine own_st (fun _ k => XS.icmpNo X0.here hx rfl (hb hby d3_62) rfl ((own_i2 _ _ _).trans (own_nyes (hc62 : p0 < (8192 : Int32)))) k) ?_
      show own_Go p e below _ (T0.setTop (mkF m 65 #[.val (.int p0)] []))
      refine own_st (fun _ k => XS.iloadN X0.here hx rfl (hb hby d3_65) rfl k) ?_
      show own_Go p e below _ (T0.setTop (mkF m 66 #[.val (.int p0)] [(.int p0)]))
      refine own_st (fun _ k => XS.sipush X0.here hx rfl (hb hby d3_66) k) ?_
      show own_Go p e below _ (T0.setTop (mkF m 69 #[.val (.int p0)] [(.int (183 : Int32)), (.int p0)]))
      by_cases hc69 : p0 = (183 : Int32)
      · refine own_st (fun _ k => XS.icmpYes X0.here hx rfl (pc0 := 69) (pc' := 124) rfl (hb hby d3_69) rfl ((own_i2 _ _ _).trans (own_yes (hc69 : p0 = (183 : Int32)))) (by decide) (by decide) k) ?_
        show own_Go p e below _ (T0.setTop (mkF m 124 #[.val (.int p0)] []))
        exact B124 T0 X0 e0 ((show own_r_58 p0 = own_r_124 p0 from ((if_pos hc62)).trans ((if_pos hc69))).symm.trans hbk)
      · refine own_st (fun _ k => XS.icmpNo X0.here hx rfl (hb hby d3_69) rfl ((own_i2 _ _ _).trans (own_no (hc69 : ¬ (p0 = (183 : Int32))))) k) ?_
        show own_Go p e below _ (T0.setTop (mkF m 72 #[.val (.int p0)] []))
        refine own_st (fun _ k => XS.iloadN X0.here hx rfl (hb hby d3_72) rfl k) ?_
        show own_Go p e below _ (T0.setTop (mkF m 73 #[.val (.int p0)] [(.int p0)]))
        refine own_st (fun _ k => XS.sipush X0.here hx rfl (hb hby d3_73) k) ?_
        show own_Go p e below _ (T0.setTop (mkF m 76 #[.val (.int p0)] [(.int (192 : Int32)), (.int p0)]))
        refine own_st (fun _ k => XS.sipush X0.here hx rfl (hb hby d3_76) k) ?_
        show own_Go p e below _ (T0.setTop (mkF m 79 #[.val (.int p0)] [(.int (214 : Int32)), (.int (192 : Int32)), (.int p0)]))
        obtain ⟨_, T1, _, X1, ⟨rfl, rfl, e1⟩, st1⟩ := own_callS X0 hx hZ (y := (⟨"com/example/hornbeam/hornbeam/rdf/NameCharactersIsPnCharsPinLaw", "in", "(III)Z"⟩ : MethodName)) (argsL := [(.int p0), (.int (192 : Int32)), (.int (214 : Int32))]) (rest := []) (W := 0) (g := (mkF m 79 #[.val (.int p0)] [(.int (214 : Int32)), (.int (192 : Int32)), (.int p0)])) (rm4 l Z tA hw p0 (192 : Int32) (214 : Int32) h0) hown (hw _ (List.mem_of_getElem? (i := 23) rfl)) (hw _ (List.mem_of_getElem? (i := 24) rfl)) (hw _ (List.mem_of_getElem? (i := 21) rfl)) (hw _ (List.mem_of_getElem? (i := 25) rfl)) (by decide) e0 rfl (by rw [hml]; rfl) pd_1 rfl rfl (by show 2 * 0 + _ ≤ _; exact Nat.le_of_eq rfl) (hb hby d3_79) (by decide) (by decide) (by decide) (by decide)
        replace X1 := own_flat X1
        refine own_st st1 ?_
        show own_Go p e below _ (T1.setTop (mkF m 82 #[.val (.int p0)] [(.int (own_in_0 p0 (192 : Int32) (214 : Int32)))]))
        by_cases hc82 : (own_in_0 p0 (192 : Int32) (214 : Int32)) = (0 : Int32)
        · refine own_st (fun _ k => XS.ifNo X1.here hx rfl (hb hby d3_82) rfl ((own_i0 _ _).trans (own_nyes (hc82 : (own_in_0 p0 (192 : Int32) (214 : Int32)) = (0 : Int32)))) k) ?_
          show own_Go p e below _ (T1.setTop (mkF m 85 #[.val (.int p0)] []))
          refine own_st (fun _ k => XS.iloadN X1.here hx rfl (hb hby d3_85) rfl k) ?_
          show own_Go p e below _ (T1.setTop (mkF m 86 #[.val (.int p0)] [(.int p0)]))
          refine own_st (fun _ k => XS.sipush X1.here hx rfl (hb hby d3_86) k) ?_
          show own_Go p e below _ (T1.setTop (mkF m 89 #[.val (.int p0)] [(.int (216 : Int32)), (.int p0)]))
          refine own_st (fun _ k => XS.sipush X1.here hx rfl (hb hby d3_89) k) ?_
          show own_Go p e below _ (T1.setTop (mkF m 92 #[.val (.int p0)] [(.int (246 : Int32)), (.int (216 : Int32)), (.int p0)]))
          obtain ⟨_, T2, _, X2, ⟨rfl, rfl, e2⟩, st2⟩ := own_callS X1 hx hZ (y := (⟨"com/example/hornbeam/hornbeam/rdf/NameCharactersIsPnCharsPinLaw", "in", "(III)Z"⟩ : MethodName)) (argsL := [(.int p0), (.int (216 : Int32)), (.int (246 : Int32))]) (rest := []) (W := 0) (g := (mkF m 92 #[.val (.int p0)] [(.int (246 : Int32)), (.int (216 : Int32)), (.int p0)])) (rm4 l Z tA hw p0 (216 : Int32) (246 : Int32) h0) hown (hw _ (List.mem_of_getElem? (i := 23) rfl)) (hw _ (List.mem_of_getElem? (i := 24) rfl)) (hw _ (List.mem_of_getElem? (i := 21) rfl)) (hw _ (List.mem_of_getElem? (i := 25) rfl)) (by decide) e1 rfl (by rw [hml]; rfl) pd_1 rfl rfl (by show 2 * 0 + _ ≤ _; exact Nat.le_of_eq rfl) (hb hby d3_92) (by decide) (by decide) (by decide) (by decide)
          replace X2 := own_flat X2
          refine own_st st2 ?_
          show own_Go p e below _ (T2.setTop (mkF m 95 #[.val (.int p0)] [(.int (own_in_0 p0 (216 : Int32) (246 : Int32)))]))
          by_cases hc95 : (own_in_0 p0 (216 : Int32) (246 : Int32)) = (0 : Int32)
          · refine own_st (fun _ k => XS.ifNo X2.here hx rfl (hb hby d3_95) rfl ((own_i0 _ _).trans (own_nyes (hc95 : (own_in_0 p0 (216 : Int32) (246 : Int32)) = (0 : Int32)))) k) ?_
            show own_Go p e below _ (T2.setTop (mkF m 98 #[.val (.int p0)] []))
            refine own_st (fun _ k => XS.iloadN X2.here hx rfl (hb hby d3_98) rfl k) ?_
            show own_Go p e below _ (T2.setTop (mkF m 99 #[.val (.int p0)] [(.int p0)]))
            refine own_st (fun _ k => XS.sipush X2.here hx rfl (hb hby d3_99) k) ?_
            show own_Go p e below _ (T2.setTop (mkF m 102 #[.val (.int p0)] [(.int (248 : Int32)), (.int p0)]))
            refine own_st (fun _ k => XS.sipush X2.here hx rfl (hb hby d3_102) k) ?_
            show own_Go p e below _ (T2.setTop (mkF m 105 #[.val (.int p0)] [(.int (893 : Int32)), (.int (248 : Int32)), (.int p0)]))
            obtain ⟨_, T3, _, X3, ⟨rfl, rfl, e3⟩, st3⟩ := own_callS X2 hx hZ (y := (⟨"com/example/hornbeam/hornbeam/rdf/NameCharactersIsPnCharsPinLaw", "in", "(III)Z"⟩ : MethodName)) (argsL := [(.int p0), (.int (248 : Int32)), (.int (893 : Int32))]) (rest := []) (W := 0) (g := (mkF m 105 #[.val (.int p0)] [(.int (893 : Int32)), (.int (248 : Int32)), (.int p0)])) (rm4 l Z tA hw p0 (248 : Int32) (893 : Int32) h0) hown (hw _ (List.mem_of_getElem? (i := 23) rfl)) (hw _ (List.mem_of_getElem? (i := 24) rfl)) (hw _ (List.mem_of_getElem? (i := 21) rfl)) (hw _ (List.mem_of_getElem? (i := 25) rfl)) (by decide) e2 rfl (by rw [hml]; rfl) pd_1 rfl rfl (by show 2 * 0 + _ ≤ _; exact Nat.le_of_eq rfl) (hb hby d3_105) (by decide) (by decide) (by decide) (by decide)
            replace X3 := own_flat X3
            refine own_st st3 ?_
            show own_Go p e below _ (T3.setTop (mkF m 108 #[.val (.int p0)] [(.int (own_in_0 p0 (248 : Int32) (893 : Int32)))]))
            by_cases hc108 : (own_in_0 p0 (248 : Int32) (893 : Int32)) = (0 : Int32)
            · refine own_st (fun _ k => XS.ifNo X3.here hx rfl (hb hby d3_108) rfl ((own_i0 _ _).trans (own_nyes (hc108 : (own_in_0 p0 (248 : Int32) (893 : Int32)) = (0 : Int32)))) k) ?_
              show own_Go p e below _ (T3.setTop (mkF m 111 #[.val (.int p0)] []))
              refine own_st (fun _ k => XS.iloadN X3.here hx rfl (hb hby d3_111) rfl k) ?_
              show own_Go p e below _ (T3.setTop (mkF m 112 #[.val (.int p0)] [(.int p0)]))
              refine own_st (fun _ k => XS.sipush X3.here hx rfl (hb hby d3_112) k) ?_
              show own_Go p e below _ (T3.setTop (mkF m 115 #[.val (.int p0)] [(.int (895 : Int32)), (.int p0)]))
              refine own_st (fun _ k => XS.sipush X3.here hx rfl (hb hby d3_115) k) ?_
              show own_Go p e below _ (T3.setTop (mkF m 118 #[.val (.int p0)] [(.int (8191 : Int32)), (.int (895 : Int32)), (.int p0)]))
              obtain ⟨_, T4, _, X4, ⟨rfl, rfl, e4⟩, st4⟩ := own_callS X3 hx hZ (y := (⟨"com/example/hornbeam/hornbeam/rdf/NameCharactersIsPnCharsPinLaw", "in", "(III)Z"⟩ : MethodName)) (argsL := [(.int p0), (.int (895 : Int32)), (.int (8191 : Int32))]) (rest := []) (W := 0) (g := (mkF m 118 #[.val (.int p0)] [(.int (8191 : Int32)), (.int (895 : Int32)), (.int p0)])) (rm4 l Z tA hw p0 (895 : Int32) (8191 : Int32) h0) hown (hw _ (List.mem_of_getElem? (i := 23) rfl)) (hw _ (List.mem_of_getElem? (i := 24) rfl)) (hw _ (List.mem_of_getElem? (i := 21) rfl)) (hw _ (List.mem_of_getElem? (i := 25) rfl)) (by decide) e3 rfl (by rw [hml]; rfl) pd_1 rfl rfl (by show 2 * 0 + _ ≤ _; exact Nat.le_of_eq rfl) (hb hby d3_118) (by decide) (by decide) (by decide) (by decide)
              replace X4 := own_flat X4
              refine own_st st4 ?_
              show own_Go p e below _ (T4.setTop (mkF m 121 #[.val (.int p0)] [(.int (own_in_0 p0 (895 : Int32) (8191 : Int32)))]))
              by_cases hc121 : (own_in_0 p0 (895 : Int32) (8191 : Int32)) = (0 : Int32)
              · refine own_st (fun _ k => XS.ifYes X4.here hx rfl (pc0 := 121) (pc' := 128) rfl (hb hby d3_121) rfl ((own_i0 _ _).trans (own_yes (hc121 : (own_in_0 p0 (895 : Int32) (8191 : Int32)) = (0 : Int32)))) (by decide) (by decide) k) ?_
                show own_Go p e below _ (T4.setTop (mkF m 128 #[.val (.int p0)] []))
                exact B128 T4 X4 e4 ((show own_r_58 p0 = own_r_128 p0 from ((if_pos hc62)).trans (((if_neg hc69)).trans (((if_pos hc82)).trans (((if_pos hc95)).trans (((if_pos hc108)).trans ((if_pos hc121))))))).symm.trans hbk)
              · refine own_st (fun _ k => XS.ifNo X4.here hx rfl (hb hby d3_121) rfl ((own_i0 _ _).trans (own_no (hc121 : ¬ ((own_in_0 p0 (895 : Int32) (8191 : Int32)) = (0 : Int32))))) k) ?_
                show own_Go p e below _ (T4.setTop (mkF m 124 #[.val (.int p0)] []))
                exact B124 T4 X4 e4 ((show own_r_58 p0 = own_r_124 p0 from ((if_pos hc62)).trans (((if_neg hc69)).trans (((if_pos hc82)).trans (((if_pos hc95)).trans (((if_pos hc108)).trans ((if_neg hc121))))))).symm.trans hbk)
            · refine own_st (fun _ k => XS.ifYes X3.here hx rfl (pc0 := 108) (pc' := 124) rfl (hb hby d3_108) rfl ((own_i0 _ _).trans (own_nno (hc108 : ¬ ((own_in_0 p0 (248 : Int32) (893 : Int32)) = (0 : Int32))))) (by decide) (by decide) k) ?_
              show own_Go p e below _ (T3.setTop (mkF m 124 #[.val (.int p0)] []))
              exact B124 T3 X3 e3 ((show own_r_58 p0 = own_r_124 p0 from ((if_pos hc62)).trans (((if_neg hc69)).trans (((if_pos hc82)).trans (((if_pos hc95)).trans ((if_neg hc108)))))).symm.trans hbk)
          · refine own_st (fun _ k => XS.ifYes X2.here hx rfl (pc0 := 95) (pc' := 124) rfl (hb hby d3_95) rfl ((own_i0 _ _).trans (own_nno (hc95 : ¬ ((own_in_0 p0 (216 : Int32) (246 : Int32)) = (0 : Int32))))) (by decide) (by decide) k) ?_
            show own_Go p e below _ (T2.setTop (mkF m 124 #[.val (.int p0)] []))
            exact B124 T2 X2 e2 ((show own_r_58 p0 = own_r_124 p0 from ((if_pos hc62)).trans (((if_neg hc69)).trans (((if_pos hc82)).trans ((if_neg hc95))))).symm.trans hbk)
        · refine own_st (fun _ k => XS.ifYes X1.here hx rfl (pc0 := 82) (pc' := 124) rfl (hb hby d3_82) rfl ((own_i0 _ _).trans (own_nno (hc82 : ¬ ((own_in_0 p0 (192 : Int32) (214 : Int32)) = (0 : Int32))))) (by decide) (by decide) k) ?_
          show own_Go p e below _ (T1.setTop (mkF m 124 #[.val (.int p0)] []))
          exact B124 T1 X1 e1 ((show own_r_58 p0 = own_r_124 p0 from ((if_pos hc62)).trans (((if_neg hc69)).trans ((if_neg hc82)))).symm.trans hbk)
    · refine own_st (fun _ k => XS.icmpYes X0.here hx rfl (pc0 := 62) (pc' := 130) rfl (hb hby d3_62) rfl ((own_i2 _ _ _).trans (own_nno (hc62 : ¬ (p0 < (8192 : Int32))))) (by decide) (by decide) k) ?_
      show own_Go p e below _ (T0.setTop (mkF m 130 #[.val (.int p0)] []))
      exact B130 T0 X0 e0 ((show own_r_58 p0 = own_r_130 p0 from (if_neg hc62)).symm.trans hbk)
  have B56 : ∀ (T0 : State), Stand p l e ({ frames := 1, cells := 0, slots := 0, locals := 14 } : Room) s m #[(.int p0)] below meth c T0 [] 0 0 → T0.heap = h0 → own_r_56 p0 = own_r_0 p0 → own_Go p e below (own_Post s (own_P (some (.int (own_r_0 p0))) h0) ({ frames := 1, cells := 0, slots := 0, locals := 14 } : Room).cells ({ frames := 1, cells := 0, slots := 0, locals := 14 } : Room).slots) (T0.setTop (mkF m 56 #[.val (.int p0)] [])) := by
    intro T0 X0 e0 hbk
    show own_Go p e below _ (T0.setTop (mkF m 56 #[.val (.int p0)] []))
    refine own_st (fun _ k => XS.iconst X0.here hx rfl (hb hby d3_56) k) ?_
    show own_Go p e below _ (T0.setTop (mkF m 57 #[.val (.int p0)] [(.int (0 : Int32))]))
    exact own_retZ X0 hx hlk hret rfl (hb hby d3_57) ⟨congrArg (fun z => some (Value.int z)) ((show own_r_56 p0 = (0 : Int32) from rfl).symm.trans hbk), rfl, e0⟩ (by decide) (by decide)
  have B52 : ∀ (T0 : State), Stand p l e ({ frames := 1, cells := 0, slots := 0, locals := 14 } : Room) s m #[(.int p0)] below meth c T0 [] 0 0 → T0.heap = h0 → own_r_52 p0 = own_r_0 p0 → own_Go p e below (own_Post s (own_P (some (.int (own_r_0 p0))) h0) ({ frames := 1, cells := 0, slots := 0, locals := 14 } : Room).cells ({ frames := 1, cells := 0, slots := 0, locals := 14 } : Room).slots) (T0.setTop (mkF m 52 #[.val (.int p0)] [])) := by
    intro T0 X0 e0 hbk
    show own_Go p e below _ (T0.setTop (mkF m 52 #[.val (.int p0)] []))
    refine own_st (fun _ k => XS.iconst X0.here hx rfl (hb hby d3_52) k) ?_
    show own_Go p e below _ (T0.setTop (mkF m 53 #[.val (.int p0)] [(.int (1 : Int32))]))
    refine own_st (fun _ k => XS.goto X0.here hx rfl (pc0 := 53) (pc' := 57) rfl (hb hby d3_53) (by decide) (by decide) k) ?_
    show own_Go p e below _ (T0.setTop (mkF m 57 #[.val (.int p0)] [(.int (1 : Int32))]))
    exact own_retZ X0 hx hlk hret rfl (hb hby d3_57) ⟨congrArg (fun z => some (Value.int z)) ((show own_r_52 p0 = (1 : Int32) from rfl).symm.trans hbk), rfl, e0⟩ (by decide) (by decide)
  have B0 : ∀ (T0 : State), Stand p l e ({ frames := 1, cells := 0, slots := 0, locals := 14 } : Room) s m #[(.int p0)] below meth c T0 [] 0 0 → T0.heap = h0 → own_r_0 p0 = own_r_0 p0 → own_Go p e below (own_Post s (own_P (some (.int (own_r_0 p0))) h0) ({ frames := 1, cells := 0, slots := 0, locals := 14 } : Room).cells ({ frames := 1, cells := 0, slots := 0, locals := 14 } : Room).slots) (T0.setTop (mkF m 0 #[.val (.int p0)] [])) := by
    intro T0 X0 e0 hbk
    show own_Go p e below _ (T0.setTop (mkF m 0 #[.val (.int p0)] []))
    refine own_st (fun _ k => XS.iloadN X0.here hx rfl (hb hby d3_0) rfl k) ?_
    show own_Go p e below _ (T0.setTop (mkF m 1 #[.val (.int p0)] [(.int p0)]))
    refine own_st (fun _ k => XS.sipush X0.here hx rfl (hb hby d3_1) k) ?_
    show own_Go p e below _ (T0.setTop (mkF m 4 #[.val (.int p0)] [(.int (128 : Int32)), (.int p0)]))
    by_cases hc4 : p0 < (128 : Int32)
    · refine own_st (fun _ k => XS.icmpNo X0.here hx rfl (hb hby d3_4) rfl ((own_i2 _ _ _).trans (own_nyes (hc4 : p0 < (128 : Int32)))) k) ?_
      show own_Go p e below _ (T0.setTop (mkF m 7 #[.val (.int p0)] []))
      refine own_st (fun _ k => XS.iloadN X0.here hx rfl (hb hby d3_7) rfl k) ?_
      show own_Go p e below _ (T0.setTop (mkF m 8 #[.val (.int p0)] [(.int p0)]))
      refine own_st (fun _ k => XS.bipush X0.here hx rfl (hb hby d3_8) k) ?_
      show own_Go p e below _ (T0.setTop (mkF m 10 #[.val (.int p0)] [(.int (45 : Int32)), (.int p0)]))
      by_cases hc10 : p0 = (45 : Int32)
      · refine own_st (fun _ k => XS.icmpYes X0.here hx rfl (pc0 := 10) (pc' := 52) rfl (hb hby d3_10) rfl ((own_i2 _ _ _).trans (own_yes (hc10 : p0 = (45 : Int32)))) (by decide) (by decide) k) ?_
        show own_Go p e below _ (T0.setTop (mkF m 52 #[.val (.int p0)] []))
        exact B52 T0 X0 e0 ((show own_r_0 p0 = own_r_52 p0 from ((if_pos hc4)).trans ((if_pos hc10))).symm.trans hbk)
      · refine own_st (fun _ k => XS.icmpNo X0.here hx rfl (hb hby d3_10) rfl ((own_i2 _ _ _).trans (own_no (hc10 : ¬ (p0 = (45 : Int32))))) k) ?_
        show own_Go p e below _ (T0.setTop (mkF m 13 #[.val (.int p0)] []))
        refine own_st (fun _ k => XS.iloadN X0.here hx rfl (hb hby d3_13) rfl k) ?_
        show own_Go p e below _ (T0.setTop (mkF m 14 #[.val (.int p0)] [(.int p0)]))
        refine own_st (fun _ k => XS.bipush X0.here hx rfl (hb hby d3_14) k) ?_
        show own_Go p e below _ (T0.setTop (mkF m 16 #[.val (.int p0)] [(.int (48 : Int32)), (.int p0)]))
        refine own_st (fun _ k => XS.bipush X0.here hx rfl (hb hby d3_16) k) ?_
        show own_Go p e below _ (T0.setTop (mkF m 18 #[.val (.int p0)] [(.int (57 : Int32)), (.int (48 : Int32)), (.int p0)]))
        obtain ⟨_, T1, _, X1, ⟨rfl, rfl, e1⟩, st1⟩ := own_callS X0 hx hZ (y := (⟨"com/example/hornbeam/hornbeam/rdf/NameCharactersIsPnCharsPinLaw", "in", "(III)Z"⟩ : MethodName)) (argsL := [(.int p0), (.int (48 : Int32)), (.int (57 : Int32))]) (rest := []) (W := 0) (g := (mkF m 18 #[.val (.int p0)] [(.int (57 : Int32)), (.int (48 : Int32)), (.int p0)])) (rm4 l Z tA hw p0 (48 : Int32) (57 : Int32) h0) hown (hw _ (List.mem_of_getElem? (i := 23) rfl)) (hw _ (List.mem_of_getElem? (i := 24) rfl)) (hw _ (List.mem_of_getElem? (i := 21) rfl)) (hw _ (List.mem_of_getElem? (i := 25) rfl)) (by decide) e0 rfl (by rw [hml]; rfl) pd_1 rfl rfl (by show 2 * 0 + _ ≤ _; exact Nat.le_of_eq rfl) (hb hby d3_18) (by decide) (by decide) (by decide) (by decide)
        replace X1 := own_flat X1
        refine own_st st1 ?_
        show own_Go p e below _ (T1.setTop (mkF m 21 #[.val (.int p0)] [(.int (own_in_0 p0 (48 : Int32) (57 : Int32)))]))
        by_cases hc21 : (own_in_0 p0 (48 : Int32) (57 : Int32)) = (0 : Int32)
        · refine own_st (fun _ k => XS.ifNo X1.here hx rfl (hb hby d3_21) rfl ((own_i0 _ _).trans (own_nyes (hc21 : (own_in_0 p0 (48 : Int32) (57 : Int32)) = (0 : Int32)))) k) ?_
          show own_Go p e below _ (T1.setTop (mkF m 24 #[.val (.int p0)] []))
          refine own_st (fun _ k => XS.iloadN X1.here hx rfl (hb hby d3_24) rfl k) ?_
          show own_Go p e below _ (T1.setTop (mkF m 25 #[.val (.int p0)] [(.int p0)]))
          refine own_st (fun _ k => XS.bipush X1.here hx rfl (hb hby d3_25) k) ?_
          show own_Go p e below _ (T1.setTop (mkF m 27 #[.val (.int p0)] [(.int (65 : Int32)), (.int p0)]))
          refine own_st (fun _ k => XS.bipush X1.here hx rfl (hb hby d3_27) k) ?_
          show own_Go p e below _ (T1.setTop (mkF m 29 #[.val (.int p0)] [(.int (90 : Int32)), (.int (65 : Int32)), (.int p0)]))
          obtain ⟨_, T2, _, X2, ⟨rfl, rfl, e2⟩, st2⟩ := own_callS X1 hx hZ (y := (⟨"com/example/hornbeam/hornbeam/rdf/NameCharactersIsPnCharsPinLaw", "in", "(III)Z"⟩ : MethodName)) (argsL := [(.int p0), (.int (65 : Int32)), (.int (90 : Int32))]) (rest := []) (W := 0) (g := (mkF m 29 #[.val (.int p0)] [(.int (90 : Int32)), (.int (65 : Int32)), (.int p0)])) (rm4 l Z tA hw p0 (65 : Int32) (90 : Int32) h0) hown (hw _ (List.mem_of_getElem? (i := 23) rfl)) (hw _ (List.mem_of_getElem? (i := 24) rfl)) (hw _ (List.mem_of_getElem? (i := 21) rfl)) (hw _ (List.mem_of_getElem? (i := 25) rfl)) (by decide) e1 rfl (by rw [hml]; rfl) pd_1 rfl rfl (by show 2 * 0 + _ ≤ _; exact Nat.le_of_eq rfl) (hb hby d3_29) (by decide) (by decide) (by decide) (by decide)
          replace X2 := own_flat X2
          refine own_st st2 ?_
          show own_Go p e below _ (T2.setTop (mkF m 32 #[.val (.int p0)] [(.int (own_in_0 p0 (65 : Int32) (90 : Int32)))]))
          by_cases hc32 : (own_in_0 p0 (65 : Int32) (90 : Int32)) = (0 : Int32)
          · refine own_st (fun _ k => XS.ifNo X2.here hx rfl (hb hby d3_32) rfl ((own_i0 _ _).trans (own_nyes (hc32 : (own_in_0 p0 (65 : Int32) (90 : Int32)) = (0 : Int32)))) k) ?_
            show own_Go p e below _ (T2.setTop (mkF m 35 #[.val (.int p0)] []))
            refine own_st (fun _ k => XS.iloadN X2.here hx rfl (hb hby d3_35) rfl k) ?_
            show own_Go p e below _ (T2.setTop (mkF m 36 #[.val (.int p0)] [(.int p0)]))
            refine own_st (fun _ k => XS.bipush X2.here hx rfl (hb hby d3_36) k) ?_
            show own_Go p e below _ (T2.setTop (mkF m 38 #[.val (.int p0)] [(.int (95 : Int32)), (.int p0)]))
            by_cases hc38 : p0 = (95 : Int32)
            · refine own_st (fun _ k => XS.icmpYes X2.here hx rfl (pc0 := 38) (pc' := 52) rfl (hb hby d3_38) rfl ((own_i2 _ _ _).trans (own_yes (hc38 : p0 = (95 : Int32)))) (by decide) (by decide) k) ?_
              show own_Go p e below _ (T2.setTop (mkF m 52 #[.val (.int p0)] []))
              exact B52 T2 X2 e2 ((show own_r_0 p0 = own_r_52 p0 from ((if_pos hc4)).trans (((if_neg hc10)).trans (((if_pos hc21)).trans (((if_pos hc32)).trans ((if_pos hc38)))))).symm.trans hbk)
            · refine own_st (fun _ k => XS.icmpNo X2.here hx rfl (hb hby d3_38) rfl ((own_i2 _ _ _).trans (own_no (hc38 : ¬ (p0 = (95 : Int32))))) k) ?_
              show own_Go p e below _ (T2.setTop (mkF m 41 #[.val (.int p0)] []))
              refine own_st (fun _ k => XS.iloadN X2.here hx rfl (hb hby d3_41) rfl k) ?_
              show own_Go p e below _ (T2.setTop (mkF m 42 #[.val (.int p0)] [(.int p0)]))
              refine own_st (fun _ k => XS.bipush X2.here hx rfl (hb hby d3_42) k) ?_
              show own_Go p e below _ (T2.setTop (mkF m 44 #[.val (.int p0)] [(.int (97 : Int32)), (.int p0)]))
              refine own_st (fun _ k => XS.bipush X2.here hx rfl (hb hby d3_44) k) ?_
              show own_Go p e below _ (T2.setTop (mkF m 46 #[.val (.int p0)] [(.int (122 : Int32)), (.int (97 : Int32)), (.int p0)]))
              obtain ⟨_, T3, _, X3, ⟨rfl, rfl, e3⟩, st3⟩ := own_callS X2 hx hZ (y := (⟨"com/example/hornbeam/hornbeam/rdf/NameCharactersIsPnCharsPinLaw", "in", "(III)Z"⟩ : MethodName)) (argsL := [(.int p0), (.int (97 : Int32)), (.int (122 : Int32))]) (rest := []) (W := 0) (g := (mkF m 46 #[.val (.int p0)] [(.int (122 : Int32)), (.int (97 : Int32)), (.int p0)])) (rm4 l Z tA hw p0 (97 : Int32) (122 : Int32) h0) hown (hw _ (List.mem_of_getElem? (i := 23) rfl)) (hw _ (List.mem_of_getElem? (i := 24) rfl)) (hw _ (List.mem_of_getElem? (i := 21) rfl)) (hw _ (List.mem_of_getElem? (i := 25) rfl)) (by decide) e2 rfl (by rw [hml]; rfl) pd_1 rfl rfl (by show 2 * 0 + _ ≤ _; exact Nat.le_of_eq rfl) (hb hby d3_46) (by decide) (by decide) (by decide) (by decide)
              replace X3 := own_flat X3
              refine own_st st3 ?_
              show own_Go p e below _ (T3.setTop (mkF m 49 #[.val (.int p0)] [(.int (own_in_0 p0 (97 : Int32) (122 : Int32)))]))
              by_cases hc49 : (own_in_0 p0 (97 : Int32) (122 : Int32)) = (0 : Int32)
              · refine own_st (fun _ k => XS.ifYes X3.here hx rfl (pc0 := 49) (pc' := 56) rfl (hb hby d3_49) rfl ((own_i0 _ _).trans (own_yes (hc49 : (own_in_0 p0 (97 : Int32) (122 : Int32)) = (0 : Int32)))) (by decide) (by decide) k) ?_
                show own_Go p e below _ (T3.setTop (mkF m 56 #[.val (.int p0)] []))
                exact B56 T3 X3 e3 ((show own_r_0 p0 = own_r_56 p0 from ((if_pos hc4)).trans (((if_neg hc10)).trans (((if_pos hc21)).trans (((if_pos hc32)).trans (((if_neg hc38)).trans ((if_pos hc49))))))).symm.trans hbk)
              · refine own_st (fun _ k => XS.ifNo X3.here hx rfl (hb hby d3_49) rfl ((own_i0 _ _).trans (own_no (hc49 : ¬ ((own_in_0 p0 (97 : Int32) (122 : Int32)) = (0 : Int32))))) k) ?_
                show own_Go p e below _ (T3.setTop (mkF m 52 #[.val (.int p0)] []))
                exact B52 T3 X3 e3 ((show own_r_0 p0 = own_r_52 p0 from ((if_pos hc4)).trans (((if_neg hc10)).trans (((if_pos hc21)).trans (((if_pos hc32)).trans (((if_neg hc38)).trans ((if_neg hc49))))))).symm.trans hbk)
          · refine own_st (fun _ k => XS.ifYes X2.here hx rfl (pc0 := 32) (pc' := 52) rfl (hb hby d3_32) rfl ((own_i0 _ _).trans (own_nno (hc32 : ¬ ((own_in_0 p0 (65 : Int32) (90 : Int32)) = (0 : Int32))))) (by decide) (by decide) k) ?_
            show own_Go p e below _ (T2.setTop (mkF m 52 #[.val (.int p0)] []))
            exact B52 T2 X2 e2 ((show own_r_0 p0 = own_r_52 p0 from ((if_pos hc4)).trans (((if_neg hc10)).trans (((if_pos hc21)).trans ((if_neg hc32))))).symm.trans hbk)
        · refine own_st (fun _ k => XS.ifYes X1.here hx rfl (pc0 := 21) (pc' := 52) rfl (hb hby d3_21) rfl ((own_i0 _ _).trans (own_nno (hc21 : ¬ ((own_in_0 p0 (48 : Int32) (57 : Int32)) = (0 : Int32))))) (by decide) (by decide) k) ?_
          show own_Go p e below _ (T1.setTop (mkF m 52 #[.val (.int p0)] []))
          exact B52 T1 X1 e1 ((show own_r_0 p0 = own_r_52 p0 from ((if_pos hc4)).trans (((if_neg hc10)).trans ((if_neg hc21)))).symm.trans hbk)
    · refine own_st (fun _ k => XS.icmpYes X0.here hx rfl (pc0 := 4) (pc' := 58) rfl (hb hby d3_4) rfl ((own_i2 _ _ _).trans (own_nno (hc4 : ¬ (p0 < (128 : Int32))))) (by decide) (by decide) k) ?_
      show own_Go p e below _ (T0.setTop (mkF m 58 #[.val (.int p0)] []))
      exact B58 T0 X0 e0 ((show own_r_0 p0 = own_r_58 p0 from (if_neg hc4)).symm.trans hbk)
  rw [ef_3]
  exact B0 _ X0 e0 rfl
def own_Ks : List Int32 := [0, 1, 45, 48, 57, 65, 90, 95, 97, 122, 128, 183, 192, 214, 216, 246, 248, 767, 768, 879, 880, 893, 895, 8191, 8192, 8204, 8205, 8255, 8256, 8304, 8591, 11264, 12271, 12289, 55295, 63744, 64975, 65008, 65533, 65536, 983039]
def own_pts : List Int32 := [-2147483648, 0, 1, 2, 45, 46, 48, 49, 57, 58, 65, 66, 90, 91, 95, 96, 97, 98, 122, 123, 128, 129, 183, 184, 192, 193, 214, 215, 216, 217, 246, 247, 248, 249, 767, 768, 769, 879, 880, 881, 893, 894, 895, 896, 8191, 8192, 8193, 8204, 8205, 8206, 8255, 8256, 8257, 8304, 8305, 8591, 8592, 11264, 11265, 12271, 12272, 12289, 12290, 55295, 55296, 63744, 63745, 64975, 64976, 65008, 65009, 65533, 65534, 65536, 65537, 983039, 983040]
def own_E (x y : Int32) : Prop := ∀ k ∈ own_Ks, (x < k ↔ y < k) ∧ (k < x ↔ k < y) ∧ (x = k ↔ y = k)
theorem own_ite {P Q : Prop} [Decidable P] [Decidable Q] {a b a' b' : Int32} (h : P ↔ Q) (h1 : a = a') (h2 : b = b') : (if P then a else b) = (if Q then a' else b') := by
  subst h1 h2
  by_cases q : P
  · rw [if_pos q, if_pos (h.mp q)]
  · rw [if_neg q, if_neg fun r => q (h.mpr r)]
/-- the greatest of a list's members that isn't above x -/
theorem own_top (x : Int32) : ∀ L : List Int32, (∃ q ∈ L, q ≤ x) → ∃ r ∈ L, r ≤ x ∧ ∀ q ∈ L, q ≤ x → q ≤ r
  | [], h => by obtain ⟨q, h1, -⟩ := h; cases h1
  | a :: L, h => by
    by_cases hL : ∃ q ∈ L, q ≤ x
    · obtain ⟨r, h1, h2, h3⟩ := own_top x L hL
      by_cases ha : a ≤ x ∧ r ≤ a
      · refine ⟨a, List.mem_cons_self .., ha.1, fun q hq hx => ?_⟩
        rcases List.mem_cons.mp hq with rfl | hq
        · exact Int32.le_refl _
        · exact Int32.le_trans (h3 q hq hx) ha.2
      · refine ⟨r, List.mem_cons_of_mem _ h1, h2, fun q hq hx => ?_⟩
        rcases List.mem_cons.mp hq with rfl | hq
        · rcases Int32.le_total q r with z | z
          · exact z
          · exact absurd ⟨hx, z⟩ ha
        · exact h3 q hq hx
    · obtain ⟨q, h1, h2⟩ := h
      rcases List.mem_cons.mp h1 with rfl | h1
      · refine ⟨q, List.mem_cons_self .., h2, fun r hr hx => ?_⟩
        rcases List.mem_cons.mp hr with rfl | hr
        · exact Int32.le_refl _
        · exact absurd ⟨r, hr, hx⟩ hL
      · exact absurd ⟨q, h1, h2⟩ hL
theorem own_kpts : ∀ k ∈ own_Ks, k ∈ own_pts ∧ (k + 1) ∈ own_pts ∧ (k + 1).toInt = k.toInt + 1 := by decide +kernel
theorem own_rep (x : Int32) : ∃ r ∈ own_pts, own_E x r := by
  obtain ⟨r, h1, h2, h3⟩ := own_top x own_pts ⟨-2147483648, by decide +kernel, by rw [Int32.le_iff_toInt_le]; exact x.le_toInt⟩
  refine ⟨r, h1, fun k hk => ?_⟩
  obtain ⟨k1, k2, k3⟩ := own_kpts k hk
  have q1 := h3 k k1
  have q2 := h3 (k + 1) k2
  simp only [Int32.le_iff_toInt_le, Int32.lt_iff_toInt_lt, ← Int32.toInt_inj] at *
  omega

theorem own_in_c (a b : Int32) (ha : a ∈ own_Ks) (hb : b ∈ own_Ks) {x y : Int32} (h : own_E x y) : own_in_0 x a b = own_in_0 y a b := own_ite (h a ha).1 rfl (own_ite (h b hb).2.1 rfl rfl)
theorem own_b_c189 {x y : Int32} (h : own_E x y) : own_b_189 x = own_b_189 y := rfl
theorem own_b_c185 {x y : Int32} (h : own_E x y) : own_b_185 x = own_b_185 y := rfl
theorem own_b_c173 {x y : Int32} (h : own_E x y) : own_b_173 x = own_b_173 y := (own_ite (h (65536 : Int32) (by decide)).1 (own_b_c189 h) (own_ite (h (983039 : Int32) (by decide)).2.1 (own_b_c189 h) (own_b_c185 h)))
theorem own_b_c161 {x y : Int32} (h : own_E x y) : own_b_161 x = own_b_161 y := (own_ite (h (65008 : Int32) (by decide)).1 (own_b_c173 h) (own_ite (h (65533 : Int32) (by decide)).2.1 (own_b_c173 h) (own_b_c185 h)))
theorem own_b_c149 {x y : Int32} (h : own_E x y) : own_b_149 x = own_b_149 y := (own_ite (h (63744 : Int32) (by decide)).1 (own_b_c161 h) (own_ite (h (64975 : Int32) (by decide)).2.1 (own_b_c161 h) (own_b_c185 h)))
theorem own_b_c136 {x y : Int32} (h : own_E x y) : own_b_136 x = own_b_136 y := (own_ite (h (12289 : Int32) (by decide)).1 (own_b_c149 h) (own_ite (h (55295 : Int32) (by decide)).2.1 (own_b_c149 h) (own_b_c185 h)))
theorem own_b_c122 {x y : Int32} (h : own_E x y) : own_b_122 x = own_b_122 y := (own_ite (h (11264 : Int32) (by decide)).1 (own_b_c136 h) (own_ite (h (12271 : Int32) (by decide)).2.1 (own_b_c136 h) (own_b_c185 h)))
theorem own_b_c108 {x y : Int32} (h : own_E x y) : own_b_108 x = own_b_108 y := (own_ite (h (8304 : Int32) (by decide)).1 (own_b_c122 h) (own_ite (h (8591 : Int32) (by decide)).2.1 (own_b_c122 h) (own_b_c185 h)))
theorem own_b_c94 {x y : Int32} (h : own_E x y) : own_b_94 x = own_b_94 y := (own_ite (h (8204 : Int32) (by decide)).1 (own_b_c108 h) (own_ite (h (8205 : Int32) (by decide)).2.1 (own_b_c108 h) (own_b_c185 h)))
theorem own_b_c80 {x y : Int32} (h : own_E x y) : own_b_80 x = own_b_80 y := (own_ite (h (895 : Int32) (by decide)).1 (own_b_c94 h) (own_ite (h (8191 : Int32) (by decide)).2.1 (own_b_c94 h) (own_b_c185 h)))
theorem own_b_c66 {x y : Int32} (h : own_E x y) : own_b_66 x = own_b_66 y := (own_ite (h (880 : Int32) (by decide)).1 (own_b_c80 h) (own_ite (h (893 : Int32) (by decide)).2.1 (own_b_c80 h) (own_b_c185 h)))
theorem own_b_c52 {x y : Int32} (h : own_E x y) : own_b_52 x = own_b_52 y := (own_ite (h (248 : Int32) (by decide)).1 (own_b_c66 h) (own_ite (h (767 : Int32) (by decide)).2.1 (own_b_c66 h) (own_b_c185 h)))
theorem own_b_c38 {x y : Int32} (h : own_E x y) : own_b_38 x = own_b_38 y := (own_ite (h (216 : Int32) (by decide)).1 (own_b_c52 h) (own_ite (h (246 : Int32) (by decide)).2.1 (own_b_c52 h) (own_b_c185 h)))
theorem own_b_c24 {x y : Int32} (h : own_E x y) : own_b_24 x = own_b_24 y := (own_ite (h (192 : Int32) (by decide)).1 (own_b_c38 h) (own_ite (h (214 : Int32) (by decide)).2.1 (own_b_c38 h) (own_b_c185 h)))
theorem own_b_c12 {x y : Int32} (h : own_E x y) : own_b_12 x = own_b_12 y := (own_ite (h (65 : Int32) (by decide)).1 (own_b_c24 h) (own_ite (h (90 : Int32) (by decide)).2.1 (own_b_c24 h) (own_b_c185 h)))
theorem own_b_c0 {x y : Int32} (h : own_E x y) : own_b_0 x = own_b_0 y := (own_ite (h (97 : Int32) (by decide)).1 (own_b_c12 h) (own_ite (h (122 : Int32) (by decide)).2.1 (own_b_c12 h) (own_b_c185 h)))
theorem own_a_c70 {x y : Int32} (h : own_E x y) : own_a_70 x = own_a_70 y := rfl
theorem own_a_c66 {x y : Int32} (h : own_E x y) : own_a_66 x = own_a_66 y := rfl
theorem own_a_c52 {x y : Int32} (h : own_E x y) : own_a_52 x = own_a_52 y := (own_ite (h (8255 : Int32) (by decide)).1 (own_a_c70 h) (own_ite (h (8256 : Int32) (by decide)).2.1 (own_a_c70 h) (own_a_c66 h)))
theorem own_a_c31 {x y : Int32} (h : own_E x y) : own_a_31 x = own_a_31 y := (own_ite (h (183 : Int32) (by decide)).2.2 (own_a_c66 h) (own_ite (h (768 : Int32) (by decide)).1 (own_a_c52 h) (own_ite (h (879 : Int32) (by decide)).2.1 (own_a_c52 h) (own_a_c66 h))))
theorem own_a_c0 {x y : Int32} (h : own_E x y) : own_a_0 x = own_a_0 y := (own_ite (iff_of_eq (congrArg (· = (0 : Int32)) (own_b_c0 h))) (own_ite (h (95 : Int32) (by decide)).2.2 (own_a_c66 h) (own_ite (h (45 : Int32) (by decide)).2.2 (own_a_c66 h) (own_ite (h (48 : Int32) (by decide)).1 (own_a_c31 h) (own_ite (h (57 : Int32) (by decide)).2.1 (own_a_c31 h) (own_a_c66 h))))) (own_a_c66 h))
theorem own_r_c238 {x y : Int32} (h : own_E x y) : own_r_238 x = own_r_238 y := rfl
theorem own_r_c228 {x y : Int32} (h : own_E x y) : own_r_228 x = own_r_228 y := (own_ite (h (983039 : Int32) (by decide)).2.1 (own_r_c238 h) rfl)
theorem own_r_c226 {x y : Int32} (h : own_E x y) : own_r_226 x = own_r_226 y := rfl
theorem own_r_c222 {x y : Int32} (h : own_E x y) : own_r_222 x = own_r_222 y := rfl
theorem own_r_c130 {x y : Int32} (h : own_E x y) : own_r_130 x = own_r_130 y := (own_ite (h (65536 : Int32) (by decide)).1 (own_ite (iff_of_eq (congrArg (· = (0 : Int32)) (own_in_c 8204 8205 (by decide) (by decide) h))) (own_ite (iff_of_eq (congrArg (· = (0 : Int32)) (own_in_c 8255 8256 (by decide) (by decide) h))) (own_ite (iff_of_eq (congrArg (· = (0 : Int32)) (own_in_c 8304 8591 (by decide) (by decide) h))) (own_ite (iff_of_eq (congrArg (· = (0 : Int32)) (own_in_c 11264 12271 (by decide) (by decide) h))) (own_ite (iff_of_eq (congrArg (· = (0 : Int32)) (own_in_c 12289 55295 (by decide) (by decide) h))) (own_ite (iff_of_eq (congrArg (· = (0 : Int32)) (own_in_c 63744 64975 (by decide) (by decide) h))) (own_ite (iff_of_eq (congrArg (· = (0 : Int32)) (own_in_c 65008 65533 (by decide) (by decide) h))) (own_r_c226 h) (own_r_c222 h)) (own_r_c222 h)) (own_r_c222 h)) (own_r_c222 h)) (own_r_c222 h)) (own_r_c222 h)) (own_r_c222 h)) (own_r_c228 h))
theorem own_r_c128 {x y : Int32} (h : own_E x y) : own_r_128 x = own_r_128 y := rfl
theorem own_r_c124 {x y : Int32} (h : own_E x y) : own_r_124 x = own_r_124 y := rfl
theorem own_r_c58 {x y : Int32} (h : own_E x y) : own_r_58 x = own_r_58 y := (own_ite (h (8192 : Int32) (by decide)).1 (own_ite (h (183 : Int32) (by decide)).2.2 (own_r_c124 h) (own_ite (iff_of_eq (congrArg (· = (0 : Int32)) (own_in_c 192 214 (by decide) (by decide) h))) (own_ite (iff_of_eq (congrArg (· = (0 : Int32)) (own_in_c 216 246 (by decide) (by decide) h))) (own_ite (iff_of_eq (congrArg (· = (0 : Int32)) (own_in_c 248 893 (by decide) (by decide) h))) (own_ite (iff_of_eq (congrArg (· = (0 : Int32)) (own_in_c 895 8191 (by decide) (by decide) h))) (own_r_c128 h) (own_r_c124 h)) (own_r_c124 h)) (own_r_c124 h)) (own_r_c124 h))) (own_r_c130 h))
theorem own_r_c56 {x y : Int32} (h : own_E x y) : own_r_56 x = own_r_56 y := rfl
theorem own_r_c52 {x y : Int32} (h : own_E x y) : own_r_52 x = own_r_52 y := rfl
theorem own_r_c0 {x y : Int32} (h : own_E x y) : own_r_0 x = own_r_0 y := (own_ite (h (128 : Int32) (by decide)).1 (own_ite (h (45 : Int32) (by decide)).2.2 (own_r_c52 h) (own_ite (iff_of_eq (congrArg (· = (0 : Int32)) (own_in_c 48 57 (by decide) (by decide) h))) (own_ite (iff_of_eq (congrArg (· = (0 : Int32)) (own_in_c 65 90 (by decide) (by decide) h))) (own_ite (h (95 : Int32) (by decide)).2.2 (own_r_c52 h) (own_ite (iff_of_eq (congrArg (· = (0 : Int32)) (own_in_c 97 122 (by decide) (by decide) h))) (own_r_c56 h) (own_r_c52 h))) (own_r_c52 h)) (own_r_c52 h))) (own_r_c58 h))
theorem own_chk : ∀ q ∈ own_pts, own_a_0 q = own_r_0 q := by decide +kernel
theorem own_law (x : Int32) : own_a_0 x = own_r_0 x := by
  obtain ⟨r, h1, h2⟩ := own_rep x
  rw [own_a_c0 h2, own_r_c0 h2]
  exact own_chk r h1
theorem own_ix (x : Int32) : ¬ ((x &&& (2147483647 : Int32)) % (36 : Int32)) < 0 ∧ ((x &&& (2147483647 : Int32)) % (36 : Int32)) < (36 : Int32) := by
  have e1 := c_mask x (2147483647 : Int32) 31 (by decide) (by decide)
  have e2 := (c_irem (x &&& (2147483647 : Int32)) (36 : Int32) 36 rfl).1 (by rw [e1]; omega)
  simp only [Int32.lt_iff_toInt_lt]
  have e3 : (0 : Int32).toInt = 0 := rfl
  have e4 : (36 : Int32).toInt = 36 := rfl
  rw [e2, e3, e4]
  omega
theorem pn_0 : plainFor (⟨"com/example/hornbeam/hornbeam/rdf/NameCharactersIsPnCharsPinLaw", "law", "(III)Z"⟩ : MethodName) = true := plainFor_of_name (by first | (simp [plainName, overriddenIn]; done) | decide +kernel)
theorem ef_0 (m : MethodId) (x0 : Int32) (x1 : Int32) (x2 : Int32) : entryFrame m #[(.int x0), (.int x1), (.int x2)] maxLocals = mkF m 0 #[.val (.int x0), .val (.int x1), .val (.int x2), .unset, .unset, .unset, .unset] [] := by first | (simp [entryFrame, mkF, argsToLocals, Value.category, maxLocals]; done) | rfl
set_option maxRecDepth 65536 in
set_option maxHeartbeats 40000000 in
theorem rm0 (l : Launch) (Z : State) (tA : Array Value) (hw : ∀ d ∈ tables_1, d.before tA Z = true) (p0 : Int32) (p1 : Int32) (p2 : Int32) (h0 : Heap) (n0 : Nat) (Z0 : n0 ≤ h0.size) :
    MetFree l x (head1 (Jvm.Cond.code x code maxLocals ret :: tables_1) room_1) (fun a U => a = #[(.int p0), (.int p1), (.int p2)] ∧ Z.Warmed39 U.vm ∧ U.heap = h0) (fun _ _ _ _ _ => True) (fun _ U o U' => own_Post U (fun v _ L => v = some (.int (1 : Int32)) ∧ Fr n0 L) 16 192 o U') := by
  refine own_body pn_0 ?_
  intro p e s m below meth c s₁ X0 hx hZ hby hml hown hret hlk hnm e0
  have N0 := Fr.nil n0
  rw [ef_0]
  show own_Go p e below _ (s₁.setTop (mkF m 0 #[.val (.int p0), .val (.int p1), .val (.int p2), .unset, .unset, .unset, .unset] []))
  refine own_st (fun _ k => XS.bipush X0.here hx rfl (hb hby at_0) k) ?_
  show own_Go p e below _ (s₁.setTop (mkF m 2 #[.val (.int p0), .val (.int p1), .val (.int p2), .unset, .unset, .unset, .unset] [(.int (36 : Int32))]))
  obtain ⟨T1, h1, k1, X1, e1, E1, A1, st1⟩ := newP X0 hx hZ (hw _ (List.mem_of_getElem? (i := 0) rfl)) e0 (g := (mkF m 2 #[.val (.int p0), .val (.int p1), .val (.int p2), .unset, .unset, .unset, .unset] [(.int (36 : Int32))])) rfl (hb hby at_2) rfl (by decide) (cap := 36) (by decide) (by decide) (by decide) (by decide)
  refine own_st st1 ?_
  obtain ⟨b1, g1⟩ : ∃ z, z = h0.size := ⟨_, rfl⟩
  rw [← g1] at A1 ⊢
  have g_b1 : n0 ≤ b1 := Nat.le_trans Z0 (Nat.le_of_eq g1.symm)
  replace Z0 := Nat.le_trans Z0 E1.1
  have V_b1 : Arv Z h1 b1 k1 .int (36 : Int32) [(.int (0 : Int32)), (.int (0 : Int32)), (.int (0 : Int32)), (.int (0 : Int32)), (.int (0 : Int32)), (.int (0 : Int32)), (.int (0 : Int32)), (.int (0 : Int32)), (.int (0 : Int32)), (.int (0 : Int32)), (.int (0 : Int32)), (.int (0 : Int32)), (.int (0 : Int32)), (.int (0 : Int32)), (.int (0 : Int32)), (.int (0 : Int32)), (.int (0 : Int32)), (.int (0 : Int32)), (.int (0 : Int32)), (.int (0 : Int32)), (.int (0 : Int32)), (.int (0 : Int32)), (.int (0 : Int32)), (.int (0 : Int32)), (.int (0 : Int32)), (.int (0 : Int32)), (.int (0 : Int32)), (.int (0 : Int32)), (.int (0 : Int32)), (.int (0 : Int32)), (.int (0 : Int32)), (.int (0 : Int32)), (.int (0 : Int32)), (.int (0 : Int32)), (.int (0 : Int32)), (.int (0 : Int32))] (.int (0 : Int32)) := (Arv.new A1 (by decide)).pad (pad_rep [] (.int (0 : Int32)) 36)
  show own_Go p e below _ (T1.setTop (mkF m 4 #[.val (.int p0), .val (.int p1), .val (.int p2), .unset, .unset, .unset, .unset] [(.ref b1)]))
  refine own_st (fun _ k => XS.dup X1.here hx rfl (hb hby at_4) rfl rfl k) ?_
  show own_Go p e below _ (T1.setTop (mkF m 5 #[.val (.int p0), .val (.int p1), .val (.int p2), .unset, .unset, .unset, .unset] [(.ref b1), (.ref b1)]))
  refine own_st (fun _ k => XS.iconst X1.here hx rfl (hb hby at_5) k) ?_
  show own_Go p e below _ (T1.setTop (mkF m 6 #[.val (.int p0), .val (.int p1), .val (.int p2), .unset, .unset, .unset, .unset] [(.int (0 : Int32)), (.ref b1), (.ref b1)]))
  refine own_st (fun _ k => XS.bipush X1.here hx rfl (hb hby at_6) k) ?_
  show own_Go p e below _ (T1.setTop (mkF m 8 #[.val (.int p0), .val (.int p1), .val (.int p2), .unset, .unset, .unset, .unset] [(.int (45 : Int32)), (.int (0 : Int32)), (.ref b1), (.ref b1)]))
  obtain ⟨cl2, Ar2, qc2, S2, M2, H2, G2⟩ := V_b1
  obtain ⟨T2, h2, X2, e2, W2, st2⟩ := stI X1 hx hZ e1 Ar2 (j := (0 : Int32)) (inb_of S2 ⟨by decide, by decide⟩) (g := (mkF m 8 #[.val (.int p0), .val (.int p1), .val (.int p2), .unset, .unset, .unset, .unset] [(.int (45 : Int32)), (.int (0 : Int32)), (.ref b1), (.ref b1)])) rfl rfl (hb hby at_8)
  refine own_st st2 ?_
  replace Z0 := Nat.le_trans Z0 (Nat.le_of_eq W2.size.symm)
  replace N0 := Fr.snoc X2 N0 g_b1
  have V_b1 : Arv Z h2 b1 k1 .int (36 : Int32) [(.int (45 : Int32)), (.int (0 : Int32)), (.int (0 : Int32)), (.int (0 : Int32)), (.int (0 : Int32)), (.int (0 : Int32)), (.int (0 : Int32)), (.int (0 : Int32)), (.int (0 : Int32)), (.int (0 : Int32)), (.int (0 : Int32)), (.int (0 : Int32)), (.int (0 : Int32)), (.int (0 : Int32)), (.int (0 : Int32)), (.int (0 : Int32)), (.int (0 : Int32)), (.int (0 : Int32)), (.int (0 : Int32)), (.int (0 : Int32)), (.int (0 : Int32)), (.int (0 : Int32)), (.int (0 : Int32)), (.int (0 : Int32)), (.int (0 : Int32)), (.int (0 : Int32)), (.int (0 : Int32)), (.int (0 : Int32)), (.int (0 : Int32)), (.int (0 : Int32)), (.int (0 : Int32)), (.int (0 : Int32)), (.int (0 : Int32)), (.int (0 : Int32)), (.int (0 : Int32)), (.int (0 : Int32))] (.int (0 : Int32)) := Arv.set Ar2 qc2 S2 M2 H2 G2 rfl W2 0 rfl (Nat.le_of_ble_eq_true rfl)
  show own_Go p e below _ (T2.setTop (mkF m 9 #[.val (.int p0), .val (.int p1), .val (.int p2), .unset, .unset, .unset, .unset] [(.ref b1)]))
  refine own_st (fun _ k => XS.dup X2.here hx rfl (hb hby at_9) rfl rfl k) ?_
  show own_Go p e below _ (T2.setTop (mkF m 10 #[.val (.int p0), .val (.int p1), .val (.int p2), .unset, .unset, .unset, .unset] [(.ref b1), (.ref b1)]))
  refine own_st (fun _ k => XS.iconst X2.here hx rfl (hb hby at_10) k) ?_
  show own_Go p e below _ (T2.setTop (mkF m 11 #[.val (.int p0), .val (.int p1), .val (.int p2), .unset, .unset, .unset, .unset] [(.int (1 : Int32)), (.ref b1), (.ref b1)]))
  refine own_st (fun _ k => XS.bipush X2.here hx rfl (hb hby at_11) k) ?_
  show own_Go p e below _ (T2.setTop (mkF m 13 #[.val (.int p0), .val (.int p1), .val (.int p2), .unset, .unset, .unset, .unset] [(.int (45 : Int32)), (.int (1 : Int32)), (.ref b1), (.ref b1)]))
  obtain ⟨cl3, Ar3, qc3, S3, M3, H3, G3⟩ := V_b1
  obtain ⟨T3, h3, X3, e3, W3, st3⟩ := stI X2 hx hZ e2 Ar3 (j := (1 : Int32)) (inb_of S3 ⟨by decide, by decide⟩) (g := (mkF m 13 #[.val (.int p0), .val (.int p1), .val (.int p2), .unset, .unset, .unset, .unset] [(.int (45 : Int32)), (.int (1 : Int32)), (.ref b1), (.ref b1)])) rfl rfl (hb hby at_13)
  refine own_st st3 ?_
  replace Z0 := Nat.le_trans Z0 (Nat.le_of_eq W3.size.symm)
  replace N0 := Fr.snoc X3 N0 g_b1
  have V_b1 : Arv Z h3 b1 k1 .int (36 : Int32) [(.int (45 : Int32)), (.int (45 : Int32)), (.int (0 : Int32)), (.int (0 : Int32)), (.int (0 : Int32)), (.int (0 : Int32)), (.int (0 : Int32)), (.int (0 : Int32)), (.int (0 : Int32)), (.int (0 : Int32)), (.int (0 : Int32)), (.int (0 : Int32)), (.int (0 : Int32)), (.int (0 : Int32)), (.int (0 : Int32)), (.int (0 : Int32)), (.int (0 : Int32)), (.int (0 : Int32)), (.int (0 : Int32)), (.int (0 : Int32)), (.int (0 : Int32)), (.int (0 : Int32)), (.int (0 : Int32)), (.int (0 : Int32)), (.int (0 : Int32)), (.int (0 : Int32)), (.int (0 : Int32)), (.int (0 : Int32)), (.int (0 : Int32)), (.int (0 : Int32)), (.int (0 : Int32)), (.int (0 : Int32)), (.int (0 : Int32)), (.int (0 : Int32)), (.int (0 : Int32)), (.int (0 : Int32))] (.int (0 : Int32)) := Arv.set Ar3 qc3 S3 M3 H3 G3 rfl W3 1 rfl (Nat.le_of_ble_eq_true rfl)
  show own_Go p e below _ (T3.setTop (mkF m 14 #[.val (.int p0), .val (.int p1), .val (.int p2), .unset, .unset, .unset, .unset] [(.ref b1)]))
  refine own_st (fun _ k => XS.dup X3.here hx rfl (hb hby at_14) rfl rfl k) ?_
  show own_Go p e below _ (T3.setTop (mkF m 15 #[.val (.int p0), .val (.int p1), .val (.int p2), .unset, .unset, .unset, .unset] [(.ref b1), (.ref b1)]))
  refine own_st (fun _ k => XS.iconst X3.here hx rfl (hb hby at_15) k) ?_
  show own_Go p e below _ (T3.setTop (mkF m 16 #[.val (.int p0), .val (.int p1), .val (.int p2), .unset, .unset, .unset, .unset] [(.int (2 : Int32)), (.ref b1), (.ref b1)]))
  refine own_st (fun _ k => XS.bipush X3.here hx rfl (hb hby at_16) k) ?_
  show own_Go p e below _ (T3.setTop (mkF m 18 #[.val (.int p0), .val (.int p1), .val (.int p2), .unset, .unset, .unset, .unset] [(.int (48 : Int32)), (.int (2 : Int32)), (.ref b1), (.ref b1)]))
  obtain ⟨cl4, Ar4, qc4, S4, M4, H4, G4⟩ := V_b1
  obtain ⟨T4, h4, X4, e4, W4, st4⟩ := stI X3 hx hZ e3 Ar4 (j := (2 : Int32)) (inb_of S4 ⟨by decide, by decide⟩) (g := (mkF m 18 #[.val (.int p0), .val (.int p1), .val (.int p2), .unset, .unset, .unset, .unset] [(.int (48 : Int32)), (.int (2 : Int32)), (.ref b1), (.ref b1)])) rfl rfl (hb hby at_18)
  refine own_st st4 ?_
  replace Z0 := Nat.le_trans Z0 (Nat.le_of_eq W4.size.symm)
  replace N0 := Fr.snoc X4 N0 g_b1
  have V_b1 : Arv Z h4 b1 k1 .int (36 : Int32) [(.int (45 : Int32)), (.int (45 : Int32)), (.int (48 : Int32)), (.int (0 : Int32)), (.int (0 : Int32)), (.int (0 : Int32)), (.int (0 : Int32)), (.int (0 : Int32)), (.int (0 : Int32)), (.int (0 : Int32)), (.int (0 : Int32)), (.int (0 : Int32)), (.int (0 : Int32)), (.int (0 : Int32)), (.int (0 : Int32)), (.int (0 : Int32)), (.int (0 : Int32)), (.int (0 : Int32)), (.int (0 : Int32)), (.int (0 : Int32)), (.int (0 : Int32)), (.int (0 : Int32)), (.int (0 : Int32)), (.int (0 : Int32)), (.int (0 : Int32)), (.int (0 : Int32)), (.int (0 : Int32)), (.int (0 : Int32)), (.int (0 : Int32)), (.int (0 : Int32)), (.int (0 : Int32)), (.int (0 : Int32)), (.int (0 : Int32)), (.int (0 : Int32)), (.int (0 : Int32)), (.int (0 : Int32))] (.int (0 : Int32)) := Arv.set Ar4 qc4 S4 M4 H4 G4 rfl W4 2 rfl (Nat.le_of_ble_eq_true rfl)
  show own_Go p e below _ (T4.setTop (mkF m 19 #[.val (.int p0), .val (.int p1), .val (.int p2), .unset, .unset, .unset, .unset] [(.ref b1)]))
  refine own_st (fun _ k => XS.dup X4.here hx rfl (hb hby at_19) rfl rfl k) ?_
  show own_Go p e below _ (T4.setTop (mkF m 20 #[.val (.int p0), .val (.int p1), .val (.int p2), .unset, .unset, .unset, .unset] [(.ref b1), (.ref b1)]))
  refine own_st (fun _ k => XS.iconst X4.here hx rfl (hb hby at_20) k) ?_
  show own_Go p e below _ (T4.setTop (mkF m 21 #[.val (.int p0), .val (.int p1), .val (.int p2), .unset, .unset, .unset, .unset] [(.int (3 : Int32)), (.ref b1), (.ref b1)]))
  refine own_st (fun _ k => XS.bipush X4.here hx rfl (hb hby at_21) k) ?_
  show own_Go p e below _ (T4.setTop (mkF m 23 #[.val (.int p0), .val (.int p1), .val (.int p2), .unset, .unset, .unset, .unset] [(.int (57 : Int32)), (.int (3 : Int32)), (.ref b1), (.ref b1)]))
  obtain ⟨cl5, Ar5, qc5, S5, M5, H5, G5⟩ := V_b1
  obtain ⟨T5, h5, X5, e5, W5, st5⟩ := stI X4 hx hZ e4 Ar5 (j := (3 : Int32)) (inb_of S5 ⟨by decide, by decide⟩) (g := (mkF m 23 #[.val (.int p0), .val (.int p1), .val (.int p2), .unset, .unset, .unset, .unset] [(.int (57 : Int32)), (.int (3 : Int32)), (.ref b1), (.ref b1)])) rfl rfl (hb hby at_23)
  refine own_st st5 ?_
  replace Z0 := Nat.le_trans Z0 (Nat.le_of_eq W5.size.symm)
  replace N0 := Fr.snoc X5 N0 g_b1
  have V_b1 : Arv Z h5 b1 k1 .int (36 : Int32) [(.int (45 : Int32)), (.int (45 : Int32)), (.int (48 : Int32)), (.int (57 : Int32)), (.int (0 : Int32)), (.int (0 : Int32)), (.int (0 : Int32)), (.int (0 : Int32)), (.int (0 : Int32)), (.int (0 : Int32)), (.int (0 : Int32)), (.int (0 : Int32)), (.int (0 : Int32)), (.int (0 : Int32)), (.int (0 : Int32)), (.int (0 : Int32)), (.int (0 : Int32)), (.int (0 : Int32)), (.int (0 : Int32)), (.int (0 : Int32)), (.int (0 : Int32)), (.int (0 : Int32)), (.int (0 : Int32)), (.int (0 : Int32)), (.int (0 : Int32)), (.int (0 : Int32)), (.int (0 : Int32)), (.int (0 : Int32)), (.int (0 : Int32)), (.int (0 : Int32)), (.int (0 : Int32)), (.int (0 : Int32)), (.int (0 : Int32)), (.int (0 : Int32)), (.int (0 : Int32)), (.int (0 : Int32))] (.int (0 : Int32)) := Arv.set Ar5 qc5 S5 M5 H5 G5 rfl W5 3 rfl (Nat.le_of_ble_eq_true rfl)
  show own_Go p e below _ (T5.setTop (mkF m 24 #[.val (.int p0), .val (.int p1), .val (.int p2), .unset, .unset, .unset, .unset] [(.ref b1)]))
  refine own_st (fun _ k => XS.dup X5.here hx rfl (hb hby at_24) rfl rfl k) ?_
  show own_Go p e below _ (T5.setTop (mkF m 25 #[.val (.int p0), .val (.int p1), .val (.int p2), .unset, .unset, .unset, .unset] [(.ref b1), (.ref b1)]))
  refine own_st (fun _ k => XS.iconst X5.here hx rfl (hb hby at_25) k) ?_
  show own_Go p e below _ (T5.setTop (mkF m 26 #[.val (.int p0), .val (.int p1), .val (.int p2), .unset, .unset, .unset, .unset] [(.int (4 : Int32)), (.ref b1), (.ref b1)]))
  refine own_st (fun _ k => XS.bipush X5.here hx rfl (hb hby at_26) k) ?_
  show own_Go p e below _ (T5.setTop (mkF m 28 #[.val (.int p0), .val (.int p1), .val (.int p2), .unset, .unset, .unset, .unset] [(.int (65 : Int32)), (.int (4 : Int32)), (.ref b1), (.ref b1)]))
  obtain ⟨cl6, Ar6, qc6, S6, M6, H6, G6⟩ := V_b1
  obtain ⟨T6, h6, X6, e6, W6, st6⟩ := stI X5 hx hZ e5 Ar6 (j := (4 : Int32)) (inb_of S6 ⟨by decide, by decide⟩) (g := (mkF m 28 #[.val (.int p0), .val (.int p1), .val (.int p2), .unset, .unset, .unset, .unset] [(.int (65 : Int32)), (.int (4 : Int32)), (.ref b1), (.ref b1)])) rfl rfl (hb hby at_28)
  refine own_st st6 ?_
  replace Z0 := Nat.le_trans Z0 (Nat.le_of_eq W6.size.symm)
  replace N0 := Fr.snoc X6 N0 g_b1
  have V_b1 : Arv Z h6 b1 k1 .int (36 : Int32) [(.int (45 : Int32)), (.int (45 : Int32)), (.int (48 : Int32)), (.int (57 : Int32)), (.int (65 : Int32)), (.int (0 : Int32)), (.int (0 : Int32)), (.int (0 : Int32)), (.int (0 : Int32)), (.int (0 : Int32)), (.int (0 : Int32)), (.int (0 : Int32)), (.int (0 : Int32)), (.int (0 : Int32)), (.int (0 : Int32)), (.int (0 : Int32)), (.int (0 : Int32)), (.int (0 : Int32)), (.int (0 : Int32)), (.int (0 : Int32)), (.int (0 : Int32)), (.int (0 : Int32)), (.int (0 : Int32)), (.int (0 : Int32)), (.int (0 : Int32)), (.int (0 : Int32)), (.int (0 : Int32)), (.int (0 : Int32)), (.int (0 : Int32)), (.int (0 : Int32)), (.int (0 : Int32)), (.int (0 : Int32)), (.int (0 : Int32)), (.int (0 : Int32)), (.int (0 : Int32)), (.int (0 : Int32))] (.int (0 : Int32)) := Arv.set Ar6 qc6 S6 M6 H6 G6 rfl W6 4 rfl (Nat.le_of_ble_eq_true rfl)
  show own_Go p e below _ (T6.setTop (mkF m 29 #[.val (.int p0), .val (.int p1), .val (.int p2), .unset, .unset, .unset, .unset] [(.ref b1)]))
  refine own_st (fun _ k => XS.dup X6.here hx rfl (hb hby at_29) rfl rfl k) ?_
  show own_Go p e below _ (T6.setTop (mkF m 30 #[.val (.int p0), .val (.int p1), .val (.int p2), .unset, .unset, .unset, .unset] [(.ref b1), (.ref b1)]))
  refine own_st (fun _ k => XS.iconst X6.here hx rfl (hb hby at_30) k) ?_
  show own_Go p e below _ (T6.setTop (mkF m 31 #[.val (.int p0), .val (.int p1), .val (.int p2), .unset, .unset, .unset, .unset] [(.int (5 : Int32)), (.ref b1), (.ref b1)]))
  refine own_st (fun _ k => XS.bipush X6.here hx rfl (hb hby at_31) k) ?_
  show own_Go p e below _ (T6.setTop (mkF m 33 #[.val (.int p0), .val (.int p1), .val (.int p2), .unset, .unset, .unset, .unset] [(.int (90 : Int32)), (.int (5 : Int32)), (.ref b1), (.ref b1)]))
  obtain ⟨cl7, Ar7, qc7, S7, M7, H7, G7⟩ := V_b1
  obtain ⟨T7, h7, X7, e7, W7, st7⟩ := stI X6 hx hZ e6 Ar7 (j := (5 : Int32)) (inb_of S7 ⟨by decide, by decide⟩) (g := (mkF m 33 #[.val (.int p0), .val (.int p1), .val (.int p2), .unset, .unset, .unset, .unset] [(.int (90 : Int32)), (.int (5 : Int32)), (.ref b1), (.ref b1)])) rfl rfl (hb hby at_33)
  refine own_st st7 ?_
  replace Z0 := Nat.le_trans Z0 (Nat.le_of_eq W7.size.symm)
  replace N0 := Fr.snoc X7 N0 g_b1
  have V_b1 : Arv Z h7 b1 k1 .int (36 : Int32) [(.int (45 : Int32)), (.int (45 : Int32)), (.int (48 : Int32)), (.int (57 : Int32)), (.int (65 : Int32)), (.int (90 : Int32)), (.int (0 : Int32)), (.int (0 : Int32)), (.int (0 : Int32)), (.int (0 : Int32)), (.int (0 : Int32)), (.int (0 : Int32)), (.int (0 : Int32)), (.int (0 : Int32)), (.int (0 : Int32)), (.int (0 : Int32)), (.int (0 : Int32)), (.int (0 : Int32)), (.int (0 : Int32)), (.int (0 : Int32)), (.int (0 : Int32)), (.int (0 : Int32)), (.int (0 : Int32)), (.int (0 : Int32)), (.int (0 : Int32)), (.int (0 : Int32)), (.int (0 : Int32)), (.int (0 : Int32)), (.int (0 : Int32)), (.int (0 : Int32)), (.int (0 : Int32)), (.int (0 : Int32)), (.int (0 : Int32)), (.int (0 : Int32)), (.int (0 : Int32)), (.int (0 : Int32))] (.int (0 : Int32)) := Arv.set Ar7 qc7 S7 M7 H7 G7 rfl W7 5 rfl (Nat.le_of_ble_eq_true rfl)
  show own_Go p e below _ (T7.setTop (mkF m 34 #[.val (.int p0), .val (.int p1), .val (.int p2), .unset, .unset, .unset, .unset] [(.ref b1)]))
  refine own_st (fun _ k => XS.dup X7.here hx rfl (hb hby at_34) rfl rfl k) ?_
  show own_Go p e below _ (T7.setTop (mkF m 35 #[.val (.int p0), .val (.int p1), .val (.int p2), .unset, .unset, .unset, .unset] [(.ref b1), (.ref b1)]))
  refine own_st (fun _ k => XS.bipush X7.here hx rfl (hb hby at_35) k) ?_
  show own_Go p e below _ (T7.setTop (mkF m 37 #[.val (.int p0), .val (.int p1), .val (.int p2), .unset, .unset, .unset, .unset] [(.int (6 : Int32)), (.ref b1), (.ref b1)]))
  refine own_st (fun _ k => XS.bipush X7.here hx rfl (hb hby at_37) k) ?_
  show own_Go p e below _ (T7.setTop (mkF m 39 #[.val (.int p0), .val (.int p1), .val (.int p2), .unset, .unset, .unset, .unset] [(.int (95 : Int32)), (.int (6 : Int32)), (.ref b1), (.ref b1)]))
  obtain ⟨cl8, Ar8, qc8, S8, M8, H8, G8⟩ := V_b1
  obtain ⟨T8, h8, X8, e8, W8, st8⟩ := stI X7 hx hZ e7 Ar8 (j := (6 : Int32)) (inb_of S8 ⟨by decide, by decide⟩) (g := (mkF m 39 #[.val (.int p0), .val (.int p1), .val (.int p2), .unset, .unset, .unset, .unset] [(.int (95 : Int32)), (.int (6 : Int32)), (.ref b1), (.ref b1)])) rfl rfl (hb hby at_39)
  refine own_st st8 ?_
  replace Z0 := Nat.le_trans Z0 (Nat.le_of_eq W8.size.symm)
  replace N0 := Fr.snoc X8 N0 g_b1
  have V_b1 : Arv Z h8 b1 k1 .int (36 : Int32) [(.int (45 : Int32)), (.int (45 : Int32)), (.int (48 : Int32)), (.int (57 : Int32)), (.int (65 : Int32)), (.int (90 : Int32)), (.int (95 : Int32)), (.int (0 : Int32)), (.int (0 : Int32)), (.int (0 : Int32)), (.int (0 : Int32)), (.int (0 : Int32)), (.int (0 : Int32)), (.int (0 : Int32)), (.int (0 : Int32)), (.int (0 : Int32)), (.int (0 : Int32)), (.int (0 : Int32)), (.int (0 : Int32)), (.int (0 : Int32)), (.int (0 : Int32)), (.int (0 : Int32)), (.int (0 : Int32)), (.int (0 : Int32)), (.int (0 : Int32)), (.int (0 : Int32)), (.int (0 : Int32)), (.int (0 : Int32)), (.int (0 : Int32)), (.int (0 : Int32)), (.int (0 : Int32)), (.int (0 : Int32)), (.int (0 : Int32)), (.int (0 : Int32)), (.int (0 : Int32)), (.int (0 : Int32))] (.int (0 : Int32)) := Arv.set Ar8 qc8 S8 M8 H8 G8 rfl W8 6 rfl (Nat.le_of_ble_eq_true rfl)
  show own_Go p e below _ (T8.setTop (mkF m 40 #[.val (.int p0), .val (.int p1), .val (.int p2), .unset, .unset, .unset, .unset] [(.ref b1)]))
  refine own_st (fun _ k => XS.dup X8.here hx rfl (hb hby at_40) rfl rfl k) ?_
  show own_Go p e below _ (T8.setTop (mkF m 41 #[.val (.int p0), .val (.int p1), .val (.int p2), .unset, .unset, .unset, .unset] [(.ref b1), (.ref b1)]))
  refine own_st (fun _ k => XS.bipush X8.here hx rfl (hb hby at_41) k) ?_
  show own_Go p e below _ (T8.setTop (mkF m 43 #[.val (.int p0), .val (.int p1), .val (.int p2), .unset, .unset, .unset, .unset] [(.int (7 : Int32)), (.ref b1), (.ref b1)]))
  refine own_st (fun _ k => XS.bipush X8.here hx rfl (hb hby at_43) k) ?_
  show own_Go p e below _ (T8.setTop (mkF m 45 #[.val (.int p0), .val (.int p1), .val (.int p2), .unset, .unset, .unset, .unset] [(.int (95 : Int32)), (.int (7 : Int32)), (.ref b1), (.ref b1)]))
  obtain ⟨cl9, Ar9, qc9, S9, M9, H9, G9⟩ := V_b1
  obtain ⟨T9, h9, X9, e9, W9, st9⟩ := stI X8 hx hZ e8 Ar9 (j := (7 : Int32)) (inb_of S9 ⟨by decide, by decide⟩) (g := (mkF m 45 #[.val (.int p0), .val (.int p1), .val (.int p2), .unset, .unset, .unset, .unset] [(.int (95 : Int32)), (.int (7 : Int32)), (.ref b1), (.ref b1)])) rfl rfl (hb hby at_45)
  refine own_st st9 ?_
  replace Z0 := Nat.le_trans Z0 (Nat.le_of_eq W9.size.symm)
  replace N0 := Fr.snoc X9 N0 g_b1
  have V_b1 : Arv Z h9 b1 k1 .int (36 : Int32) [(.int (45 : Int32)), (.int (45 : Int32)), (.int (48 : Int32)), (.int (57 : Int32)), (.int (65 : Int32)), (.int (90 : Int32)), (.int (95 : Int32)), (.int (95 : Int32)), (.int (0 : Int32)), (.int (0 : Int32)), (.int (0 : Int32)), (.int (0 : Int32)), (.int (0 : Int32)), (.int (0 : Int32)), (.int (0 : Int32)), (.int (0 : Int32)), (.int (0 : Int32)), (.int (0 : Int32)), (.int (0 : Int32)), (.int (0 : Int32)), (.int (0 : Int32)), (.int (0 : Int32)), (.int (0 : Int32)), (.int (0 : Int32)), (.int (0 : Int32)), (.int (0 : Int32)), (.int (0 : Int32)), (.int (0 : Int32)), (.int (0 : Int32)), (.int (0 : Int32)), (.int (0 : Int32)), (.int (0 : Int32)), (.int (0 : Int32)), (.int (0 : Int32)), (.int (0 : Int32)), (.int (0 : Int32))] (.int (0 : Int32)) := Arv.set Ar9 qc9 S9 M9 H9 G9 rfl W9 7 rfl (Nat.le_of_ble_eq_true rfl)
  show own_Go p e below _ (T9.setTop (mkF m 46 #[.val (.int p0), .val (.int p1), .val (.int p2), .unset, .unset, .unset, .unset] [(.ref b1)]))
  refine own_st (fun _ k => XS.dup X9.here hx rfl (hb hby at_46) rfl rfl k) ?_
  show own_Go p e below _ (T9.setTop (mkF m 47 #[.val (.int p0), .val (.int p1), .val (.int p2), .unset, .unset, .unset, .unset] [(.ref b1), (.ref b1)]))
  refine own_st (fun _ k => XS.bipush X9.here hx rfl (hb hby at_47) k) ?_
  show own_Go p e below _ (T9.setTop (mkF m 49 #[.val (.int p0), .val (.int p1), .val (.int p2), .unset, .unset, .unset, .unset] [(.int (8 : Int32)), (.ref b1), (.ref b1)]))
  refine own_st (fun _ k => XS.bipush X9.here hx rfl (hb hby at_49) k) ?_
  show own_Go p e below _ (T9.setTop (mkF m 51 #[.val (.int p0), .val (.int p1), .val (.int p2), .unset, .unset, .unset, .unset] [(.int (97 : Int32)), (.int (8 : Int32)), (.ref b1), (.ref b1)]))
  obtain ⟨cl10, Ar10, qc10, S10, M10, H10, G10⟩ := V_b1
  obtain ⟨T10, h10, X10, e10, W10, st10⟩ := stI X9 hx hZ e9 Ar10 (j := (8 : Int32)) (inb_of S10 ⟨by decide, by decide⟩) (g := (mkF m 51 #[.val (.int p0), .val (.int p1), .val (.int p2), .unset, .unset, .unset, .unset] [(.int (97 : Int32)), (.int (8 : Int32)), (.ref b1), (.ref b1)])) rfl rfl (hb hby at_51)
  refine own_st st10 ?_
  replace Z0 := Nat.le_trans Z0 (Nat.le_of_eq W10.size.symm)
  replace N0 := Fr.snoc X10 N0 g_b1
  have V_b1 : Arv Z h10 b1 k1 .int (36 : Int32) [(.int (45 : Int32)), (.int (45 : Int32)), (.int (48 : Int32)), (.int (57 : Int32)), (.int (65 : Int32)), (.int (90 : Int32)), (.int (95 : Int32)), (.int (95 : Int32)), (.int (97 : Int32)), (.int (0 : Int32)), (.int (0 : Int32)), (.int (0 : Int32)), (.int (0 : Int32)), (.int (0 : Int32)), (.int (0 : Int32)), (.int (0 : Int32)), (.int (0 : Int32)), (.int (0 : Int32)), (.int (0 : Int32)), (.int (0 : Int32)), (.int (0 : Int32)), (.int (0 : Int32)), (.int (0 : Int32)), (.int (0 : Int32)), (.int (0 : Int32)), (.int (0 : Int32)), (.int (0 : Int32)), (.int (0 : Int32)), (.int (0 : Int32)), (.int (0 : Int32)), (.int (0 : Int32)), (.int (0 : Int32)), (.int (0 : Int32)), (.int (0 : Int32)), (.int (0 : Int32)), (.int (0 : Int32))] (.int (0 : Int32)) := Arv.set Ar10 qc10 S10 M10 H10 G10 rfl W10 8 rfl (Nat.le_of_ble_eq_true rfl)
  show own_Go p e below _ (T10.setTop (mkF m 52 #[.val (.int p0), .val (.int p1), .val (.int p2), .unset, .unset, .unset, .unset] [(.ref b1)]))
  refine own_st (fun _ k => XS.dup X10.here hx rfl (hb hby at_52) rfl rfl k) ?_
  show own_Go p e below _ (T10.setTop (mkF m 53 #[.val (.int p0), .val (.int p1), .val (.int p2), .unset, .unset, .unset, .unset] [(.ref b1), (.ref b1)]))
  refine own_st (fun _ k => XS.bipush X10.here hx rfl (hb hby at_53) k) ?_
  show own_Go p e below _ (T10.setTop (mkF m 55 #[.val (.int p0), .val (.int p1), .val (.int p2), .unset, .unset, .unset, .unset] [(.int (9 : Int32)), (.ref b1), (.ref b1)]))
  refine own_st (fun _ k => XS.bipush X10.here hx rfl (hb hby at_55) k) ?_
  show own_Go p e below _ (T10.setTop (mkF m 57 #[.val (.int p0), .val (.int p1), .val (.int p2), .unset, .unset, .unset, .unset] [(.int (122 : Int32)), (.int (9 : Int32)), (.ref b1), (.ref b1)]))
  obtain ⟨cl11, Ar11, qc11, S11, M11, H11, G11⟩ := V_b1
  obtain ⟨T11, h11, X11, e11, W11, st11⟩ := stI X10 hx hZ e10 Ar11 (j := (9 : Int32)) (inb_of S11 ⟨by decide, by decide⟩) (g := (mkF m 57 #[.val (.int p0), .val (.int p1), .val (.int p2), .unset, .unset, .unset, .unset] [(.int (122 : Int32)), (.int (9 : Int32)), (.ref b1), (.ref b1)])) rfl rfl (hb hby at_57)
  refine own_st st11 ?_
  replace Z0 := Nat.le_trans Z0 (Nat.le_of_eq W11.size.symm)
  replace N0 := Fr.snoc X11 N0 g_b1
  have V_b1 : Arv Z h11 b1 k1 .int (36 : Int32) [(.int (45 : Int32)), (.int (45 : Int32)), (.int (48 : Int32)), (.int (57 : Int32)), (.int (65 : Int32)), (.int (90 : Int32)), (.int (95 : Int32)), (.int (95 : Int32)), (.int (97 : Int32)), (.int (122 : Int32)), (.int (0 : Int32)), (.int (0 : Int32)), (.int (0 : Int32)), (.int (0 : Int32)), (.int (0 : Int32)), (.int (0 : Int32)), (.int (0 : Int32)), (.int (0 : Int32)), (.int (0 : Int32)), (.int (0 : Int32)), (.int (0 : Int32)), (.int (0 : Int32)), (.int (0 : Int32)), (.int (0 : Int32)), (.int (0 : Int32)), (.int (0 : Int32)), (.int (0 : Int32)), (.int (0 : Int32)), (.int (0 : Int32)), (.int (0 : Int32)), (.int (0 : Int32)), (.int (0 : Int32)), (.int (0 : Int32)), (.int (0 : Int32)), (.int (0 : Int32)), (.int (0 : Int32))] (.int (0 : Int32)) := Arv.set Ar11 qc11 S11 M11 H11 G11 rfl W11 9 rfl (Nat.le_of_ble_eq_true rfl)
  show own_Go p e below _ (T11.setTop (mkF m 58 #[.val (.int p0), .val (.int p1), .val (.int p2), .unset, .unset, .unset, .unset] [(.ref b1)]))
  refine own_st (fun _ k => XS.dup X11.here hx rfl (hb hby at_58) rfl rfl k) ?_
  show own_Go p e below _ (T11.setTop (mkF m 59 #[.val (.int p0), .val (.int p1), .val (.int p2), .unset, .unset, .unset, .unset] [(.ref b1), (.ref b1)]))
  refine own_st (fun _ k => XS.bipush X11.here hx rfl (hb hby at_59) k) ?_
  show own_Go p e below _ (T11.setTop (mkF m 61 #[.val (.int p0), .val (.int p1), .val (.int p2), .unset, .unset, .unset, .unset] [(.int (10 : Int32)), (.ref b1), (.ref b1)]))
  refine own_st (fun _ k => XS.sipush X11.here hx rfl (hb hby at_61) k) ?_
  show own_Go p e below _ (T11.setTop (mkF m 64 #[.val (.int p0), .val (.int p1), .val (.int p2), .unset, .unset, .unset, .unset] [(.int (183 : Int32)), (.int (10 : Int32)), (.ref b1), (.ref b1)]))
  obtain ⟨cl12, Ar12, qc12, S12, M12, H12, G12⟩ := V_b1
  obtain ⟨T12, h12, X12, e12, W12, st12⟩ := stI X11 hx hZ e11 Ar12 (j := (10 : Int32)) (inb_of S12 ⟨by decide, by decide⟩) (g := (mkF m 64 #[.val (.int p0), .val (.int p1), .val (.int p2), .unset, .unset, .unset, .unset] [(.int (183 : Int32)), (.int (10 : Int32)), (.ref b1), (.ref b1)])) rfl rfl (hb hby at_64)
  refine own_st st12 ?_
  replace Z0 := Nat.le_trans Z0 (Nat.le_of_eq W12.size.symm)
  replace N0 := Fr.snoc X12 N0 g_b1
  have V_b1 : Arv Z h12 b1 k1 .int (36 : Int32) [(.int (45 : Int32)), (.int (45 : Int32)), (.int (48 : Int32)), (.int (57 : Int32)), (.int (65 : Int32)), (.int (90 : Int32)), (.int (95 : Int32)), (.int (95 : Int32)), (.int (97 : Int32)), (.int (122 : Int32)), (.int (183 : Int32)), (.int (0 : Int32)), (.int (0 : Int32)), (.int (0 : Int32)), (.int (0 : Int32)), (.int (0 : Int32)), (.int (0 : Int32)), (.int (0 : Int32)), (.int (0 : Int32)), (.int (0 : Int32)), (.int (0 : Int32)), (.int (0 : Int32)), (.int (0 : Int32)), (.int (0 : Int32)), (.int (0 : Int32)), (.int (0 : Int32)), (.int (0 : Int32)), (.int (0 : Int32)), (.int (0 : Int32)), (.int (0 : Int32)), (.int (0 : Int32)), (.int (0 : Int32)), (.int (0 : Int32)), (.int (0 : Int32)), (.int (0 : Int32)), (.int (0 : Int32))] (.int (0 : Int32)) := Arv.set Ar12 qc12 S12 M12 H12 G12 rfl W12 10 rfl (Nat.le_of_ble_eq_true rfl)
  show own_Go p e below _ (T12.setTop (mkF m 65 #[.val (.int p0), .val (.int p1), .val (.int p2), .unset, .unset, .unset, .unset] [(.ref b1)]))
  refine own_st (fun _ k => XS.dup X12.here hx rfl (hb hby at_65) rfl rfl k) ?_
  show own_Go p e below _ (T12.setTop (mkF m 66 #[.val (.int p0), .val (.int p1), .val (.int p2), .unset, .unset, .unset, .unset] [(.ref b1), (.ref b1)]))
  refine own_st (fun _ k => XS.bipush X12.here hx rfl (hb hby at_66) k) ?_
  show own_Go p e below _ (T12.setTop (mkF m 68 #[.val (.int p0), .val (.int p1), .val (.int p2), .unset, .unset, .unset, .unset] [(.int (11 : Int32)), (.ref b1), (.ref b1)]))
  refine own_st (fun _ k => XS.sipush X12.here hx rfl (hb hby at_68) k) ?_
  show own_Go p e below _ (T12.setTop (mkF m 71 #[.val (.int p0), .val (.int p1), .val (.int p2), .unset, .unset, .unset, .unset] [(.int (183 : Int32)), (.int (11 : Int32)), (.ref b1), (.ref b1)]))
  obtain ⟨cl13, Ar13, qc13, S13, M13, H13, G13⟩ := V_b1
  obtain ⟨T13, h13, X13, e13, W13, st13⟩ := stI X12 hx hZ e12 Ar13 (j := (11 : Int32)) (inb_of S13 ⟨by decide, by decide⟩) (g := (mkF m 71 #[.val (.int p0), .val (.int p1), .val (.int p2), .unset, .unset, .unset, .unset] [(.int (183 : Int32)), (.int (11 : Int32)), (.ref b1), (.ref b1)])) rfl rfl (hb hby at_71)
  refine own_st st13 ?_
  replace Z0 := Nat.le_trans Z0 (Nat.le_of_eq W13.size.symm)
  replace N0 := Fr.snoc X13 N0 g_b1
  have V_b1 : Arv Z h13 b1 k1 .int (36 : Int32) [(.int (45 : Int32)), (.int (45 : Int32)), (.int (48 : Int32)), (.int (57 : Int32)), (.int (65 : Int32)), (.int (90 : Int32)), (.int (95 : Int32)), (.int (95 : Int32)), (.int (97 : Int32)), (.int (122 : Int32)), (.int (183 : Int32)), (.int (183 : Int32)), (.int (0 : Int32)), (.int (0 : Int32)), (.int (0 : Int32)), (.int (0 : Int32)), (.int (0 : Int32)), (.int (0 : Int32)), (.int (0 : Int32)), (.int (0 : Int32)), (.int (0 : Int32)), (.int (0 : Int32)), (.int (0 : Int32)), (.int (0 : Int32)), (.int (0 : Int32)), (.int (0 : Int32)), (.int (0 : Int32)), (.int (0 : Int32)), (.int (0 : Int32)), (.int (0 : Int32)), (.int (0 : Int32)), (.int (0 : Int32)), (.int (0 : Int32)), (.int (0 : Int32)), (.int (0 : Int32)), (.int (0 : Int32))] (.int (0 : Int32)) := Arv.set Ar13 qc13 S13 M13 H13 G13 rfl W13 11 rfl (Nat.le_of_ble_eq_true rfl)
  show own_Go p e below _ (T13.setTop (mkF m 72 #[.val (.int p0), .val (.int p1), .val (.int p2), .unset, .unset, .unset, .unset] [(.ref b1)]))
  refine own_st (fun _ k => XS.dup X13.here hx rfl (hb hby at_72) rfl rfl k) ?_
  show own_Go p e below _ (T13.setTop (mkF m 73 #[.val (.int p0), .val (.int p1), .val (.int p2), .unset, .unset, .unset, .unset] [(.ref b1), (.ref b1)]))
  refine own_st (fun _ k => XS.bipush X13.here hx rfl (hb hby at_73) k) ?_
  show own_Go p e below _ (T13.setTop (mkF m 75 #[.val (.int p0), .val (.int p1), .val (.int p2), .unset, .unset, .unset, .unset] [(.int (12 : Int32)), (.ref b1), (.ref b1)]))
  refine own_st (fun _ k => XS.sipush X13.here hx rfl (hb hby at_75) k) ?_
  show own_Go p e below _ (T13.setTop (mkF m 78 #[.val (.int p0), .val (.int p1), .val (.int p2), .unset, .unset, .unset, .unset] [(.int (192 : Int32)), (.int (12 : Int32)), (.ref b1), (.ref b1)]))
  obtain ⟨cl14, Ar14, qc14, S14, M14, H14, G14⟩ := V_b1
  obtain ⟨T14, h14, X14, e14, W14, st14⟩ := stI X13 hx hZ e13 Ar14 (j := (12 : Int32)) (inb_of S14 ⟨by decide, by decide⟩) (g := (mkF m 78 #[.val (.int p0), .val (.int p1), .val (.int p2), .unset, .unset, .unset, .unset] [(.int (192 : Int32)), (.int (12 : Int32)), (.ref b1), (.ref b1)])) rfl rfl (hb hby at_78)
  refine own_st st14 ?_
  replace Z0 := Nat.le_trans Z0 (Nat.le_of_eq W14.size.symm)
  replace N0 := Fr.snoc X14 N0 g_b1
  have V_b1 : Arv Z h14 b1 k1 .int (36 : Int32) [(.int (45 : Int32)), (.int (45 : Int32)), (.int (48 : Int32)), (.int (57 : Int32)), (.int (65 : Int32)), (.int (90 : Int32)), (.int (95 : Int32)), (.int (95 : Int32)), (.int (97 : Int32)), (.int (122 : Int32)), (.int (183 : Int32)), (.int (183 : Int32)), (.int (192 : Int32)), (.int (0 : Int32)), (.int (0 : Int32)), (.int (0 : Int32)), (.int (0 : Int32)), (.int (0 : Int32)), (.int (0 : Int32)), (.int (0 : Int32)), (.int (0 : Int32)), (.int (0 : Int32)), (.int (0 : Int32)), (.int (0 : Int32)), (.int (0 : Int32)), (.int (0 : Int32)), (.int (0 : Int32)), (.int (0 : Int32)), (.int (0 : Int32)), (.int (0 : Int32)), (.int (0 : Int32)), (.int (0 : Int32)), (.int (0 : Int32)), (.int (0 : Int32)), (.int (0 : Int32)), (.int (0 : Int32))] (.int (0 : Int32)) := Arv.set Ar14 qc14 S14 M14 H14 G14 rfl W14 12 rfl (Nat.le_of_ble_eq_true rfl)
  show own_Go p e below _ (T14.setTop (mkF m 79 #[.val (.int p0), .val (.int p1), .val (.int p2), .unset, .unset, .unset, .unset] [(.ref b1)]))
  refine own_st (fun _ k => XS.dup X14.here hx rfl (hb hby at_79) rfl rfl k) ?_
  show own_Go p e below _ (T14.setTop (mkF m 80 #[.val (.int p0), .val (.int p1), .val (.int p2), .unset, .unset, .unset, .unset] [(.ref b1), (.ref b1)]))
  refine own_st (fun _ k => XS.bipush X14.here hx rfl (hb hby at_80) k) ?_
  show own_Go p e below _ (T14.setTop (mkF m 82 #[.val (.int p0), .val (.int p1), .val (.int p2), .unset, .unset, .unset, .unset] [(.int (13 : Int32)), (.ref b1), (.ref b1)]))
  refine own_st (fun _ k => XS.sipush X14.here hx rfl (hb hby at_82) k) ?_
  show own_Go p e below _ (T14.setTop (mkF m 85 #[.val (.int p0), .val (.int p1), .val (.int p2), .unset, .unset, .unset, .unset] [(.int (214 : Int32)), (.int (13 : Int32)), (.ref b1), (.ref b1)]))
  obtain ⟨cl15, Ar15, qc15, S15, M15, H15, G15⟩ := V_b1
  obtain ⟨T15, h15, X15, e15, W15, st15⟩ := stI X14 hx hZ e14 Ar15 (j := (13 : Int32)) (inb_of S15 ⟨by decide, by decide⟩) (g := (mkF m 85 #[.val (.int p0), .val (.int p1), .val (.int p2), .unset, .unset, .unset, .unset] [(.int (214 : Int32)), (.int (13 : Int32)), (.ref b1), (.ref b1)])) rfl rfl (hb hby at_85)
  refine own_st st15 ?_
  replace Z0 := Nat.le_trans Z0 (Nat.le_of_eq W15.size.symm)
  replace N0 := Fr.snoc X15 N0 g_b1
  have V_b1 : Arv Z h15 b1 k1 .int (36 : Int32) [(.int (45 : Int32)), (.int (45 : Int32)), (.int (48 : Int32)), (.int (57 : Int32)), (.int (65 : Int32)), (.int (90 : Int32)), (.int (95 : Int32)), (.int (95 : Int32)), (.int (97 : Int32)), (.int (122 : Int32)), (.int (183 : Int32)), (.int (183 : Int32)), (.int (192 : Int32)), (.int (214 : Int32)), (.int (0 : Int32)), (.int (0 : Int32)), (.int (0 : Int32)), (.int (0 : Int32)), (.int (0 : Int32)), (.int (0 : Int32)), (.int (0 : Int32)), (.int (0 : Int32)), (.int (0 : Int32)), (.int (0 : Int32)), (.int (0 : Int32)), (.int (0 : Int32)), (.int (0 : Int32)), (.int (0 : Int32)), (.int (0 : Int32)), (.int (0 : Int32)), (.int (0 : Int32)), (.int (0 : Int32)), (.int (0 : Int32)), (.int (0 : Int32)), (.int (0 : Int32)), (.int (0 : Int32))] (.int (0 : Int32)) := Arv.set Ar15 qc15 S15 M15 H15 G15 rfl W15 13 rfl (Nat.le_of_ble_eq_true rfl)
  show own_Go p e below _ (T15.setTop (mkF m 86 #[.val (.int p0), .val (.int p1), .val (.int p2), .unset, .unset, .unset, .unset] [(.ref b1)]))
  refine own_st (fun _ k => XS.dup X15.here hx rfl (hb hby at_86) rfl rfl k) ?_
  show own_Go p e below _ (T15.setTop (mkF m 87 #[.val (.int p0), .val (.int p1), .val (.int p2), .unset, .unset, .unset, .unset] [(.ref b1), (.ref b1)]))
  refine own_st (fun _ k => XS.bipush X15.here hx rfl (hb hby at_87) k) ?_
  show own_Go p e below _ (T15.setTop (mkF m 89 #[.val (.int p0), .val (.int p1), .val (.int p2), .unset, .unset, .unset, .unset] [(.int (14 : Int32)), (.ref b1), (.ref b1)]))
  refine own_st (fun _ k => XS.sipush X15.here hx rfl (hb hby at_89) k) ?_
  show own_Go p e below _ (T15.setTop (mkF m 92 #[.val (.int p0), .val (.int p1), .val (.int p2), .unset, .unset, .unset, .unset] [(.int (216 : Int32)), (.int (14 : Int32)), (.ref b1), (.ref b1)]))
  obtain ⟨cl16, Ar16, qc16, S16, M16, H16, G16⟩ := V_b1
  obtain ⟨T16, h16, X16, e16, W16, st16⟩ := stI X15 hx hZ e15 Ar16 (j := (14 : Int32)) (inb_of S16 ⟨by decide, by decide⟩) (g := (mkF m 92 #[.val (.int p0), .val (.int p1), .val (.int p2), .unset, .unset, .unset, .unset] [(.int (216 : Int32)), (.int (14 : Int32)), (.ref b1), (.ref b1)])) rfl rfl (hb hby at_92)
  refine own_st st16 ?_
  replace Z0 := Nat.le_trans Z0 (Nat.le_of_eq W16.size.symm)
  replace N0 := Fr.snoc X16 N0 g_b1
  have V_b1 : Arv Z h16 b1 k1 .int (36 : Int32) [(.int (45 : Int32)), (.int (45 : Int32)), (.int (48 : Int32)), (.int (57 : Int32)), (.int (65 : Int32)), (.int (90 : Int32)), (.int (95 : Int32)), (.int (95 : Int32)), (.int (97 : Int32)), (.int (122 : Int32)), (.int (183 : Int32)), (.int (183 : Int32)), (.int (192 : Int32)), (.int (214 : Int32)), (.int (216 : Int32)), (.int (0 : Int32)), (.int (0 : Int32)), (.int (0 : Int32)), (.int (0 : Int32)), (.int (0 : Int32)), (.int (0 : Int32)), (.int (0 : Int32)), (.int (0 : Int32)), (.int (0 : Int32)), (.int (0 : Int32)), (.int (0 : Int32)), (.int (0 : Int32)), (.int (0 : Int32)), (.int (0 : Int32)), (.int (0 : Int32)), (.int (0 : Int32)), (.int (0 : Int32)), (.int (0 : Int32)), (.int (0 : Int32)), (.int (0 : Int32)), (.int (0 : Int32))] (.int (0 : Int32)) := Arv.set Ar16 qc16 S16 M16 H16 G16 rfl W16 14 rfl (Nat.le_of_ble_eq_true rfl)
  show own_Go p e below _ (T16.setTop (mkF m 93 #[.val (.int p0), .val (.int p1), .val (.int p2), .unset, .unset, .unset, .unset] [(.ref b1)]))
  refine own_st (fun _ k => XS.dup X16.here hx rfl (hb hby at_93) rfl rfl k) ?_
  show own_Go p e below _ (T16.setTop (mkF m 94 #[.val (.int p0), .val (.int p1), .val (.int p2), .unset, .unset, .unset, .unset] [(.ref b1), (.ref b1)]))
  refine own_st (fun _ k => XS.bipush X16.here hx rfl (hb hby at_94) k) ?_
  show own_Go p e below _ (T16.setTop (mkF m 96 #[.val (.int p0), .val (.int p1), .val (.int p2), .unset, .unset, .unset, .unset] [(.int (15 : Int32)), (.ref b1), (.ref b1)]))
  refine own_st (fun _ k => XS.sipush X16.here hx rfl (hb hby at_96) k) ?_
  show own_Go p e below _ (T16.setTop (mkF m 99 #[.val (.int p0), .val (.int p1), .val (.int p2), .unset, .unset, .unset, .unset] [(.int (246 : Int32)), (.int (15 : Int32)), (.ref b1), (.ref b1)]))
  obtain ⟨cl17, Ar17, qc17, S17, M17, H17, G17⟩ := V_b1
  obtain ⟨T17, h17, X17, e17, W17, st17⟩ := stI X16 hx hZ e16 Ar17 (j := (15 : Int32)) (inb_of S17 ⟨by decide, by decide⟩) (g := (mkF m 99 #[.val (.int p0), .val (.int p1), .val (.int p2), .unset, .unset, .unset, .unset] [(.int (246 : Int32)), (.int (15 : Int32)), (.ref b1), (.ref b1)])) rfl rfl (hb hby at_99)
  refine own_st st17 ?_
  replace Z0 := Nat.le_trans Z0 (Nat.le_of_eq W17.size.symm)
  replace N0 := Fr.snoc X17 N0 g_b1
  have V_b1 : Arv Z h17 b1 k1 .int (36 : Int32) [(.int (45 : Int32)), (.int (45 : Int32)), (.int (48 : Int32)), (.int (57 : Int32)), (.int (65 : Int32)), (.int (90 : Int32)), (.int (95 : Int32)), (.int (95 : Int32)), (.int (97 : Int32)), (.int (122 : Int32)), (.int (183 : Int32)), (.int (183 : Int32)), (.int (192 : Int32)), (.int (214 : Int32)), (.int (216 : Int32)), (.int (246 : Int32)), (.int (0 : Int32)), (.int (0 : Int32)), (.int (0 : Int32)), (.int (0 : Int32)), (.int (0 : Int32)), (.int (0 : Int32)), (.int (0 : Int32)), (.int (0 : Int32)), (.int (0 : Int32)), (.int (0 : Int32)), (.int (0 : Int32)), (.int (0 : Int32)), (.int (0 : Int32)), (.int (0 : Int32)), (.int (0 : Int32)), (.int (0 : Int32)), (.int (0 : Int32)), (.int (0 : Int32)), (.int (0 : Int32)), (.int (0 : Int32))] (.int (0 : Int32)) := Arv.set Ar17 qc17 S17 M17 H17 G17 rfl W17 15 rfl (Nat.le_of_ble_eq_true rfl)
  show own_Go p e below _ (T17.setTop (mkF m 100 #[.val (.int p0), .val (.int p1), .val (.int p2), .unset, .unset, .unset, .unset] [(.ref b1)]))
  refine own_st (fun _ k => XS.dup X17.here hx rfl (hb hby at_100) rfl rfl k) ?_
  show own_Go p e below _ (T17.setTop (mkF m 101 #[.val (.int p0), .val (.int p1), .val (.int p2), .unset, .unset, .unset, .unset] [(.ref b1), (.ref b1)]))
  refine own_st (fun _ k => XS.bipush X17.here hx rfl (hb hby at_101) k) ?_
  show own_Go p e below _ (T17.setTop (mkF m 103 #[.val (.int p0), .val (.int p1), .val (.int p2), .unset, .unset, .unset, .unset] [(.int (16 : Int32)), (.ref b1), (.ref b1)]))
  refine own_st (fun _ k => XS.sipush X17.here hx rfl (hb hby at_103) k) ?_
  show own_Go p e below _ (T17.setTop (mkF m 106 #[.val (.int p0), .val (.int p1), .val (.int p2), .unset, .unset, .unset, .unset] [(.int (248 : Int32)), (.int (16 : Int32)), (.ref b1), (.ref b1)]))
  obtain ⟨cl18, Ar18, qc18, S18, M18, H18, G18⟩ := V_b1
  obtain ⟨T18, h18, X18, e18, W18, st18⟩ := stI X17 hx hZ e17 Ar18 (j := (16 : Int32)) (inb_of S18 ⟨by decide, by decide⟩) (g := (mkF m 106 #[.val (.int p0), .val (.int p1), .val (.int p2), .unset, .unset, .unset, .unset] [(.int (248 : Int32)), (.int (16 : Int32)), (.ref b1), (.ref b1)])) rfl rfl (hb hby at_106)
  refine own_st st18 ?_
  replace Z0 := Nat.le_trans Z0 (Nat.le_of_eq W18.size.symm)
  replace N0 := Fr.snoc X18 N0 g_b1
  have V_b1 : Arv Z h18 b1 k1 .int (36 : Int32) [(.int (45 : Int32)), (.int (45 : Int32)), (.int (48 : Int32)), (.int (57 : Int32)), (.int (65 : Int32)), (.int (90 : Int32)), (.int (95 : Int32)), (.int (95 : Int32)), (.int (97 : Int32)), (.int (122 : Int32)), (.int (183 : Int32)), (.int (183 : Int32)), (.int (192 : Int32)), (.int (214 : Int32)), (.int (216 : Int32)), (.int (246 : Int32)), (.int (248 : Int32)), (.int (0 : Int32)), (.int (0 : Int32)), (.int (0 : Int32)), (.int (0 : Int32)), (.int (0 : Int32)), (.int (0 : Int32)), (.int (0 : Int32)), (.int (0 : Int32)), (.int (0 : Int32)), (.int (0 : Int32)), (.int (0 : Int32)), (.int (0 : Int32)), (.int (0 : Int32)), (.int (0 : Int32)), (.int (0 : Int32)), (.int (0 : Int32)), (.int (0 : Int32)), (.int (0 : Int32)), (.int (0 : Int32))] (.int (0 : Int32)) := Arv.set Ar18 qc18 S18 M18 H18 G18 rfl W18 16 rfl (Nat.le_of_ble_eq_true rfl)
  show own_Go p e below _ (T18.setTop (mkF m 107 #[.val (.int p0), .val (.int p1), .val (.int p2), .unset, .unset, .unset, .unset] [(.ref b1)]))
  refine own_st (fun _ k => XS.dup X18.here hx rfl (hb hby at_107) rfl rfl k) ?_
  show own_Go p e below _ (T18.setTop (mkF m 108 #[.val (.int p0), .val (.int p1), .val (.int p2), .unset, .unset, .unset, .unset] [(.ref b1), (.ref b1)]))
  refine own_st (fun _ k => XS.bipush X18.here hx rfl (hb hby at_108) k) ?_
  show own_Go p e below _ (T18.setTop (mkF m 110 #[.val (.int p0), .val (.int p1), .val (.int p2), .unset, .unset, .unset, .unset] [(.int (17 : Int32)), (.ref b1), (.ref b1)]))
  refine own_st (fun _ k => XS.sipush X18.here hx rfl (hb hby at_110) k) ?_
  show own_Go p e below _ (T18.setTop (mkF m 113 #[.val (.int p0), .val (.int p1), .val (.int p2), .unset, .unset, .unset, .unset] [(.int (893 : Int32)), (.int (17 : Int32)), (.ref b1), (.ref b1)]))
  obtain ⟨cl19, Ar19, qc19, S19, M19, H19, G19⟩ := V_b1
  obtain ⟨T19, h19, X19, e19, W19, st19⟩ := stI X18 hx hZ e18 Ar19 (j := (17 : Int32)) (inb_of S19 ⟨by decide, by decide⟩) (g := (mkF m 113 #[.val (.int p0), .val (.int p1), .val (.int p2), .unset, .unset, .unset, .unset] [(.int (893 : Int32)), (.int (17 : Int32)), (.ref b1), (.ref b1)])) rfl rfl (hb hby at_113)
  refine own_st st19 ?_
  replace Z0 := Nat.le_trans Z0 (Nat.le_of_eq W19.size.symm)
  replace N0 := Fr.snoc X19 N0 g_b1
  have V_b1 : Arv Z h19 b1 k1 .int (36 : Int32) [(.int (45 : Int32)), (.int (45 : Int32)), (.int (48 : Int32)), (.int (57 : Int32)), (.int (65 : Int32)), (.int (90 : Int32)), (.int (95 : Int32)), (.int (95 : Int32)), (.int (97 : Int32)), (.int (122 : Int32)), (.int (183 : Int32)), (.int (183 : Int32)), (.int (192 : Int32)), (.int (214 : Int32)), (.int (216 : Int32)), (.int (246 : Int32)), (.int (248 : Int32)), (.int (893 : Int32)), (.int (0 : Int32)), (.int (0 : Int32)), (.int (0 : Int32)), (.int (0 : Int32)), (.int (0 : Int32)), (.int (0 : Int32)), (.int (0 : Int32)), (.int (0 : Int32)), (.int (0 : Int32)), (.int (0 : Int32)), (.int (0 : Int32)), (.int (0 : Int32)), (.int (0 : Int32)), (.int (0 : Int32)), (.int (0 : Int32)), (.int (0 : Int32)), (.int (0 : Int32)), (.int (0 : Int32))] (.int (0 : Int32)) := Arv.set Ar19 qc19 S19 M19 H19 G19 rfl W19 17 rfl (Nat.le_of_ble_eq_true rfl)
  show own_Go p e below _ (T19.setTop (mkF m 114 #[.val (.int p0), .val (.int p1), .val (.int p2), .unset, .unset, .unset, .unset] [(.ref b1)]))
  refine own_st (fun _ k => XS.dup X19.here hx rfl (hb hby at_114) rfl rfl k) ?_
  show own_Go p e below _ (T19.setTop (mkF m 115 #[.val (.int p0), .val (.int p1), .val (.int p2), .unset, .unset, .unset, .unset] [(.ref b1), (.ref b1)]))
  refine own_st (fun _ k => XS.bipush X19.here hx rfl (hb hby at_115) k) ?_
  show own_Go p e below _ (T19.setTop (mkF m 117 #[.val (.int p0), .val (.int p1), .val (.int p2), .unset, .unset, .unset, .unset] [(.int (18 : Int32)), (.ref b1), (.ref b1)]))
  refine own_st (fun _ k => XS.sipush X19.here hx rfl (hb hby at_117) k) ?_
  show own_Go p e below _ (T19.setTop (mkF m 120 #[.val (.int p0), .val (.int p1), .val (.int p2), .unset, .unset, .unset, .unset] [(.int (895 : Int32)), (.int (18 : Int32)), (.ref b1), (.ref b1)]))
  obtain ⟨cl20, Ar20, qc20, S20, M20, H20, G20⟩ := V_b1
  obtain ⟨T20, h20, X20, e20, W20, st20⟩ := stI X19 hx hZ e19 Ar20 (j := (18 : Int32)) (inb_of S20 ⟨by decide, by decide⟩) (g := (mkF m 120 #[.val (.int p0), .val (.int p1), .val (.int p2), .unset, .unset, .unset, .unset] [(.int (895 : Int32)), (.int (18 : Int32)), (.ref b1), (.ref b1)])) rfl rfl (hb hby at_120)
  refine own_st st20 ?_
  replace Z0 := Nat.le_trans Z0 (Nat.le_of_eq W20.size.symm)
  replace N0 := Fr.snoc X20 N0 g_b1
  have V_b1 : Arv Z h20 b1 k1 .int (36 : Int32) [(.int (45 : Int32)), (.int (45 : Int32)), (.int (48 : Int32)), (.int (57 : Int32)), (.int (65 : Int32)), (.int (90 : Int32)), (.int (95 : Int32)), (.int (95 : Int32)), (.int (97 : Int32)), (.int (122 : Int32)), (.int (183 : Int32)), (.int (183 : Int32)), (.int (192 : Int32)), (.int (214 : Int32)), (.int (216 : Int32)), (.int (246 : Int32)), (.int (248 : Int32)), (.int (893 : Int32)), (.int (895 : Int32)), (.int (0 : Int32)), (.int (0 : Int32)), (.int (0 : Int32)), (.int (0 : Int32)), (.int (0 : Int32)), (.int (0 : Int32)), (.int (0 : Int32)), (.int (0 : Int32)), (.int (0 : Int32)), (.int (0 : Int32)), (.int (0 : Int32)), (.int (0 : Int32)), (.int (0 : Int32)), (.int (0 : Int32)), (.int (0 : Int32)), (.int (0 : Int32)), (.int (0 : Int32))] (.int (0 : Int32)) := Arv.set Ar20 qc20 S20 M20 H20 G20 rfl W20 18 rfl (Nat.le_of_ble_eq_true rfl)
  show own_Go p e below _ (T20.setTop (mkF m 121 #[.val (.int p0), .val (.int p1), .val (.int p2), .unset, .unset, .unset, .unset] [(.ref b1)]))
  refine own_st (fun _ k => XS.dup X20.here hx rfl (hb hby at_121) rfl rfl k) ?_
  show own_Go p e below _ (T20.setTop (mkF m 122 #[.val (.int p0), .val (.int p1), .val (.int p2), .unset, .unset, .unset, .unset] [(.ref b1), (.ref b1)]))
  refine own_st (fun _ k => XS.bipush X20.here hx rfl (hb hby at_122) k) ?_
  show own_Go p e below _ (T20.setTop (mkF m 124 #[.val (.int p0), .val (.int p1), .val (.int p2), .unset, .unset, .unset, .unset] [(.int (19 : Int32)), (.ref b1), (.ref b1)]))
  refine own_st (fun _ k => XS.sipush X20.here hx rfl (hb hby at_124) k) ?_
  show own_Go p e below _ (T20.setTop (mkF m 127 #[.val (.int p0), .val (.int p1), .val (.int p2), .unset, .unset, .unset, .unset] [(.int (8191 : Int32)), (.int (19 : Int32)), (.ref b1), (.ref b1)]))
  obtain ⟨cl21, Ar21, qc21, S21, M21, H21, G21⟩ := V_b1
  obtain ⟨T21, h21, X21, e21, W21, st21⟩ := stI X20 hx hZ e20 Ar21 (j := (19 : Int32)) (inb_of S21 ⟨by decide, by decide⟩) (g := (mkF m 127 #[.val (.int p0), .val (.int p1), .val (.int p2), .unset, .unset, .unset, .unset] [(.int (8191 : Int32)), (.int (19 : Int32)), (.ref b1), (.ref b1)])) rfl rfl (hb hby at_127)
  refine own_st st21 ?_
  replace Z0 := Nat.le_trans Z0 (Nat.le_of_eq W21.size.symm)
  replace N0 := Fr.snoc X21 N0 g_b1
  have V_b1 : Arv Z h21 b1 k1 .int (36 : Int32) [(.int (45 : Int32)), (.int (45 : Int32)), (.int (48 : Int32)), (.int (57 : Int32)), (.int (65 : Int32)), (.int (90 : Int32)), (.int (95 : Int32)), (.int (95 : Int32)), (.int (97 : Int32)), (.int (122 : Int32)), (.int (183 : Int32)), (.int (183 : Int32)), (.int (192 : Int32)), (.int (214 : Int32)), (.int (216 : Int32)), (.int (246 : Int32)), (.int (248 : Int32)), (.int (893 : Int32)), (.int (895 : Int32)), (.int (8191 : Int32)), (.int (0 : Int32)), (.int (0 : Int32)), (.int (0 : Int32)), (.int (0 : Int32)), (.int (0 : Int32)), (.int (0 : Int32)), (.int (0 : Int32)), (.int (0 : Int32)), (.int (0 : Int32)), (.int (0 : Int32)), (.int (0 : Int32)), (.int (0 : Int32)), (.int (0 : Int32)), (.int (0 : Int32)), (.int (0 : Int32)), (.int (0 : Int32))] (.int (0 : Int32)) := Arv.set Ar21 qc21 S21 M21 H21 G21 rfl W21 19 rfl (Nat.le_of_ble_eq_true rfl)
  show own_Go p e below _ (T21.setTop (mkF m 128 #[.val (.int p0), .val (.int p1), .val (.int p2), .unset, .unset, .unset, .unset] [(.ref b1)]))
  refine own_st (fun _ k => XS.dup X21.here hx rfl (hb hby at_128) rfl rfl k) ?_
  show own_Go p e below _ (T21.setTop (mkF m 129 #[.val (.int p0), .val (.int p1), .val (.int p2), .unset, .unset, .unset, .unset] [(.ref b1), (.ref b1)]))
  refine own_st (fun _ k => XS.bipush X21.here hx rfl (hb hby at_129) k) ?_
  show own_Go p e below _ (T21.setTop (mkF m 131 #[.val (.int p0), .val (.int p1), .val (.int p2), .unset, .unset, .unset, .unset] [(.int (20 : Int32)), (.ref b1), (.ref b1)]))
  refine own_st (fun _ k => XS.sipush X21.here hx rfl (hb hby at_131) k) ?_
  show own_Go p e below _ (T21.setTop (mkF m 134 #[.val (.int p0), .val (.int p1), .val (.int p2), .unset, .unset, .unset, .unset] [(.int (8204 : Int32)), (.int (20 : Int32)), (.ref b1), (.ref b1)]))
  obtain ⟨cl22, Ar22, qc22, S22, M22, H22, G22⟩ := V_b1
  obtain ⟨T22, h22, X22, e22, W22, st22⟩ := stI X21 hx hZ e21 Ar22 (j := (20 : Int32)) (inb_of S22 ⟨by decide, by decide⟩) (g := (mkF m 134 #[.val (.int p0), .val (.int p1), .val (.int p2), .unset, .unset, .unset, .unset] [(.int (8204 : Int32)), (.int (20 : Int32)), (.ref b1), (.ref b1)])) rfl rfl (hb hby at_134)
  refine own_st st22 ?_
  replace Z0 := Nat.le_trans Z0 (Nat.le_of_eq W22.size.symm)
  replace N0 := Fr.snoc X22 N0 g_b1
  have V_b1 : Arv Z h22 b1 k1 .int (36 : Int32) [(.int (45 : Int32)), (.int (45 : Int32)), (.int (48 : Int32)), (.int (57 : Int32)), (.int (65 : Int32)), (.int (90 : Int32)), (.int (95 : Int32)), (.int (95 : Int32)), (.int (97 : Int32)), (.int (122 : Int32)), (.int (183 : Int32)), (.int (183 : Int32)), (.int (192 : Int32)), (.int (214 : Int32)), (.int (216 : Int32)), (.int (246 : Int32)), (.int (248 : Int32)), (.int (893 : Int32)), (.int (895 : Int32)), (.int (8191 : Int32)), (.int (8204 : Int32)), (.int (0 : Int32)), (.int (0 : Int32)), (.int (0 : Int32)), (.int (0 : Int32)), (.int (0 : Int32)), (.int (0 : Int32)), (.int (0 : Int32)), (.int (0 : Int32)), (.int (0 : Int32)), (.int (0 : Int32)), (.int (0 : Int32)), (.int (0 : Int32)), (.int (0 : Int32)), (.int (0 : Int32)), (.int (0 : Int32))] (.int (0 : Int32)) := Arv.set Ar22 qc22 S22 M22 H22 G22 rfl W22 20 rfl (Nat.le_of_ble_eq_true rfl)
  show own_Go p e below _ (T22.setTop (mkF m 135 #[.val (.int p0), .val (.int p1), .val (.int p2), .unset, .unset, .unset, .unset] [(.ref b1)]))
  refine own_st (fun _ k => XS.dup X22.here hx rfl (hb hby at_135) rfl rfl k) ?_
  show own_Go p e below _ (T22.setTop (mkF m 136 #[.val (.int p0), .val (.int p1), .val (.int p2), .unset, .unset, .unset, .unset] [(.ref b1), (.ref b1)]))
  refine own_st (fun _ k => XS.bipush X22.here hx rfl (hb hby at_136) k) ?_
  show own_Go p e below _ (T22.setTop (mkF m 138 #[.val (.int p0), .val (.int p1), .val (.int p2), .unset, .unset, .unset, .unset] [(.int (21 : Int32)), (.ref b1), (.ref b1)]))
  refine own_st (fun _ k => XS.sipush X22.here hx rfl (hb hby at_138) k) ?_
  show own_Go p e below _ (T22.setTop (mkF m 141 #[.val (.int p0), .val (.int p1), .val (.int p2), .unset, .unset, .unset, .unset] [(.int (8205 : Int32)), (.int (21 : Int32)), (.ref b1), (.ref b1)]))
  obtain ⟨cl23, Ar23, qc23, S23, M23, H23, G23⟩ := V_b1
  obtain ⟨T23, h23, X23, e23, W23, st23⟩ := stI X22 hx hZ e22 Ar23 (j := (21 : Int32)) (inb_of S23 ⟨by decide, by decide⟩) (g := (mkF m 141 #[.val (.int p0), .val (.int p1), .val (.int p2), .unset, .unset, .unset, .unset] [(.int (8205 : Int32)), (.int (21 : Int32)), (.ref b1), (.ref b1)])) rfl rfl (hb hby at_141)
  refine own_st st23 ?_
  replace Z0 := Nat.le_trans Z0 (Nat.le_of_eq W23.size.symm)
  replace N0 := Fr.snoc X23 N0 g_b1
  have V_b1 : Arv Z h23 b1 k1 .int (36 : Int32) [(.int (45 : Int32)), (.int (45 : Int32)), (.int (48 : Int32)), (.int (57 : Int32)), (.int (65 : Int32)), (.int (90 : Int32)), (.int (95 : Int32)), (.int (95 : Int32)), (.int (97 : Int32)), (.int (122 : Int32)), (.int (183 : Int32)), (.int (183 : Int32)), (.int (192 : Int32)), (.int (214 : Int32)), (.int (216 : Int32)), (.int (246 : Int32)), (.int (248 : Int32)), (.int (893 : Int32)), (.int (895 : Int32)), (.int (8191 : Int32)), (.int (8204 : Int32)), (.int (8205 : Int32)), (.int (0 : Int32)), (.int (0 : Int32)), (.int (0 : Int32)), (.int (0 : Int32)), (.int (0 : Int32)), (.int (0 : Int32)), (.int (0 : Int32)), (.int (0 : Int32)), (.int (0 : Int32)), (.int (0 : Int32)), (.int (0 : Int32)), (.int (0 : Int32)), (.int (0 : Int32)), (.int (0 : Int32))] (.int (0 : Int32)) := Arv.set Ar23 qc23 S23 M23 H23 G23 rfl W23 21 rfl (Nat.le_of_ble_eq_true rfl)
  show own_Go p e below _ (T23.setTop (mkF m 142 #[.val (.int p0), .val (.int p1), .val (.int p2), .unset, .unset, .unset, .unset] [(.ref b1)]))
  refine own_st (fun _ k => XS.dup X23.here hx rfl (hb hby at_142) rfl rfl k) ?_
  show own_Go p e below _ (T23.setTop (mkF m 143 #[.val (.int p0), .val (.int p1), .val (.int p2), .unset, .unset, .unset, .unset] [(.ref b1), (.ref b1)]))
  refine own_st (fun _ k => XS.bipush X23.here hx rfl (hb hby at_143) k) ?_
  show own_Go p e below _ (T23.setTop (mkF m 145 #[.val (.int p0), .val (.int p1), .val (.int p2), .unset, .unset, .unset, .unset] [(.int (22 : Int32)), (.ref b1), (.ref b1)]))
  refine own_st (fun _ k => XS.sipush X23.here hx rfl (hb hby at_145) k) ?_
  show own_Go p e below _ (T23.setTop (mkF m 148 #[.val (.int p0), .val (.int p1), .val (.int p2), .unset, .unset, .unset, .unset] [(.int (8255 : Int32)), (.int (22 : Int32)), (.ref b1), (.ref b1)]))
  obtain ⟨cl24, Ar24, qc24, S24, M24, H24, G24⟩ := V_b1
  obtain ⟨T24, h24, X24, e24, W24, st24⟩ := stI X23 hx hZ e23 Ar24 (j := (22 : Int32)) (inb_of S24 ⟨by decide, by decide⟩) (g := (mkF m 148 #[.val (.int p0), .val (.int p1), .val (.int p2), .unset, .unset, .unset, .unset] [(.int (8255 : Int32)), (.int (22 : Int32)), (.ref b1), (.ref b1)])) rfl rfl (hb hby at_148)
  refine own_st st24 ?_
  replace Z0 := Nat.le_trans Z0 (Nat.le_of_eq W24.size.symm)
  replace N0 := Fr.snoc X24 N0 g_b1
  have V_b1 : Arv Z h24 b1 k1 .int (36 : Int32) [(.int (45 : Int32)), (.int (45 : Int32)), (.int (48 : Int32)), (.int (57 : Int32)), (.int (65 : Int32)), (.int (90 : Int32)), (.int (95 : Int32)), (.int (95 : Int32)), (.int (97 : Int32)), (.int (122 : Int32)), (.int (183 : Int32)), (.int (183 : Int32)), (.int (192 : Int32)), (.int (214 : Int32)), (.int (216 : Int32)), (.int (246 : Int32)), (.int (248 : Int32)), (.int (893 : Int32)), (.int (895 : Int32)), (.int (8191 : Int32)), (.int (8204 : Int32)), (.int (8205 : Int32)), (.int (8255 : Int32)), (.int (0 : Int32)), (.int (0 : Int32)), (.int (0 : Int32)), (.int (0 : Int32)), (.int (0 : Int32)), (.int (0 : Int32)), (.int (0 : Int32)), (.int (0 : Int32)), (.int (0 : Int32)), (.int (0 : Int32)), (.int (0 : Int32)), (.int (0 : Int32)), (.int (0 : Int32))] (.int (0 : Int32)) := Arv.set Ar24 qc24 S24 M24 H24 G24 rfl W24 22 rfl (Nat.le_of_ble_eq_true rfl)
  show own_Go p e below _ (T24.setTop (mkF m 149 #[.val (.int p0), .val (.int p1), .val (.int p2), .unset, .unset, .unset, .unset] [(.ref b1)]))
  refine own_st (fun _ k => XS.dup X24.here hx rfl (hb hby at_149) rfl rfl k) ?_
  show own_Go p e below _ (T24.setTop (mkF m 150 #[.val (.int p0), .val (.int p1), .val (.int p2), .unset, .unset, .unset, .unset] [(.ref b1), (.ref b1)]))
  refine own_st (fun _ k => XS.bipush X24.here hx rfl (hb hby at_150) k) ?_
  show own_Go p e below _ (T24.setTop (mkF m 152 #[.val (.int p0), .val (.int p1), .val (.int p2), .unset, .unset, .unset, .unset] [(.int (23 : Int32)), (.ref b1), (.ref b1)]))
  refine own_st (fun _ k => XS.sipush X24.here hx rfl (hb hby at_152) k) ?_
  show own_Go p e below _ (T24.setTop (mkF m 155 #[.val (.int p0), .val (.int p1), .val (.int p2), .unset, .unset, .unset, .unset] [(.int (8256 : Int32)), (.int (23 : Int32)), (.ref b1), (.ref b1)]))
  obtain ⟨cl25, Ar25, qc25, S25, M25, H25, G25⟩ := V_b1
  obtain ⟨T25, h25, X25, e25, W25, st25⟩ := stI X24 hx hZ e24 Ar25 (j := (23 : Int32)) (inb_of S25 ⟨by decide, by decide⟩) (g := (mkF m 155 #[.val (.int p0), .val (.int p1), .val (.int p2), .unset, .unset, .unset, .unset] [(.int (8256 : Int32)), (.int (23 : Int32)), (.ref b1), (.ref b1)])) rfl rfl (hb hby at_155)
  refine own_st st25 ?_
  replace Z0 := Nat.le_trans Z0 (Nat.le_of_eq W25.size.symm)
  replace N0 := Fr.snoc X25 N0 g_b1
  have V_b1 : Arv Z h25 b1 k1 .int (36 : Int32) [(.int (45 : Int32)), (.int (45 : Int32)), (.int (48 : Int32)), (.int (57 : Int32)), (.int (65 : Int32)), (.int (90 : Int32)), (.int (95 : Int32)), (.int (95 : Int32)), (.int (97 : Int32)), (.int (122 : Int32)), (.int (183 : Int32)), (.int (183 : Int32)), (.int (192 : Int32)), (.int (214 : Int32)), (.int (216 : Int32)), (.int (246 : Int32)), (.int (248 : Int32)), (.int (893 : Int32)), (.int (895 : Int32)), (.int (8191 : Int32)), (.int (8204 : Int32)), (.int (8205 : Int32)), (.int (8255 : Int32)), (.int (8256 : Int32)), (.int (0 : Int32)), (.int (0 : Int32)), (.int (0 : Int32)), (.int (0 : Int32)), (.int (0 : Int32)), (.int (0 : Int32)), (.int (0 : Int32)), (.int (0 : Int32)), (.int (0 : Int32)), (.int (0 : Int32)), (.int (0 : Int32)), (.int (0 : Int32))] (.int (0 : Int32)) := Arv.set Ar25 qc25 S25 M25 H25 G25 rfl W25 23 rfl (Nat.le_of_ble_eq_true rfl)
  show own_Go p e below _ (T25.setTop (mkF m 156 #[.val (.int p0), .val (.int p1), .val (.int p2), .unset, .unset, .unset, .unset] [(.ref b1)]))
  refine own_st (fun _ k => XS.dup X25.here hx rfl (hb hby at_156) rfl rfl k) ?_
  show own_Go p e below _ (T25.setTop (mkF m 157 #[.val (.int p0), .val (.int p1), .val (.int p2), .unset, .unset, .unset, .unset] [(.ref b1), (.ref b1)]))
  refine own_st (fun _ k => XS.bipush X25.here hx rfl (hb hby at_157) k) ?_
  show own_Go p e below _ (T25.setTop (mkF m 159 #[.val (.int p0), .val (.int p1), .val (.int p2), .unset, .unset, .unset, .unset] [(.int (24 : Int32)), (.ref b1), (.ref b1)]))
  refine own_st (fun _ k => XS.sipush X25.here hx rfl (hb hby at_159) k) ?_
  show own_Go p e below _ (T25.setTop (mkF m 162 #[.val (.int p0), .val (.int p1), .val (.int p2), .unset, .unset, .unset, .unset] [(.int (8304 : Int32)), (.int (24 : Int32)), (.ref b1), (.ref b1)]))
  obtain ⟨cl26, Ar26, qc26, S26, M26, H26, G26⟩ := V_b1
  obtain ⟨T26, h26, X26, e26, W26, st26⟩ := stI X25 hx hZ e25 Ar26 (j := (24 : Int32)) (inb_of S26 ⟨by decide, by decide⟩) (g := (mkF m 162 #[.val (.int p0), .val (.int p1), .val (.int p2), .unset, .unset, .unset, .unset] [(.int (8304 : Int32)), (.int (24 : Int32)), (.ref b1), (.ref b1)])) rfl rfl (hb hby at_162)
  refine own_st st26 ?_
  replace Z0 := Nat.le_trans Z0 (Nat.le_of_eq W26.size.symm)
  replace N0 := Fr.snoc X26 N0 g_b1
  have V_b1 : Arv Z h26 b1 k1 .int (36 : Int32) [(.int (45 : Int32)), (.int (45 : Int32)), (.int (48 : Int32)), (.int (57 : Int32)), (.int (65 : Int32)), (.int (90 : Int32)), (.int (95 : Int32)), (.int (95 : Int32)), (.int (97 : Int32)), (.int (122 : Int32)), (.int (183 : Int32)), (.int (183 : Int32)), (.int (192 : Int32)), (.int (214 : Int32)), (.int (216 : Int32)), (.int (246 : Int32)), (.int (248 : Int32)), (.int (893 : Int32)), (.int (895 : Int32)), (.int (8191 : Int32)), (.int (8204 : Int32)), (.int (8205 : Int32)), (.int (8255 : Int32)), (.int (8256 : Int32)), (.int (8304 : Int32)), (.int (0 : Int32)), (.int (0 : Int32)), (.int (0 : Int32)), (.int (0 : Int32)), (.int (0 : Int32)), (.int (0 : Int32)), (.int (0 : Int32)), (.int (0 : Int32)), (.int (0 : Int32)), (.int (0 : Int32)), (.int (0 : Int32))] (.int (0 : Int32)) := Arv.set Ar26 qc26 S26 M26 H26 G26 rfl W26 24 rfl (Nat.le_of_ble_eq_true rfl)
  show own_Go p e below _ (T26.setTop (mkF m 163 #[.val (.int p0), .val (.int p1), .val (.int p2), .unset, .unset, .unset, .unset] [(.ref b1)]))
  refine own_st (fun _ k => XS.dup X26.here hx rfl (hb hby at_163) rfl rfl k) ?_
  show own_Go p e below _ (T26.setTop (mkF m 164 #[.val (.int p0), .val (.int p1), .val (.int p2), .unset, .unset, .unset, .unset] [(.ref b1), (.ref b1)]))
  refine own_st (fun _ k => XS.bipush X26.here hx rfl (hb hby at_164) k) ?_
  show own_Go p e below _ (T26.setTop (mkF m 166 #[.val (.int p0), .val (.int p1), .val (.int p2), .unset, .unset, .unset, .unset] [(.int (25 : Int32)), (.ref b1), (.ref b1)]))
  refine own_st (fun _ k => XS.sipush X26.here hx rfl (hb hby at_166) k) ?_
  show own_Go p e below _ (T26.setTop (mkF m 169 #[.val (.int p0), .val (.int p1), .val (.int p2), .unset, .unset, .unset, .unset] [(.int (8591 : Int32)), (.int (25 : Int32)), (.ref b1), (.ref b1)]))
  obtain ⟨cl27, Ar27, qc27, S27, M27, H27, G27⟩ := V_b1
  obtain ⟨T27, h27, X27, e27, W27, st27⟩ := stI X26 hx hZ e26 Ar27 (j := (25 : Int32)) (inb_of S27 ⟨by decide, by decide⟩) (g := (mkF m 169 #[.val (.int p0), .val (.int p1), .val (.int p2), .unset, .unset, .unset, .unset] [(.int (8591 : Int32)), (.int (25 : Int32)), (.ref b1), (.ref b1)])) rfl rfl (hb hby at_169)
  refine own_st st27 ?_
  replace Z0 := Nat.le_trans Z0 (Nat.le_of_eq W27.size.symm)
  replace N0 := Fr.snoc X27 N0 g_b1
  have V_b1 : Arv Z h27 b1 k1 .int (36 : Int32) [(.int (45 : Int32)), (.int (45 : Int32)), (.int (48 : Int32)), (.int (57 : Int32)), (.int (65 : Int32)), (.int (90 : Int32)), (.int (95 : Int32)), (.int (95 : Int32)), (.int (97 : Int32)), (.int (122 : Int32)), (.int (183 : Int32)), (.int (183 : Int32)), (.int (192 : Int32)), (.int (214 : Int32)), (.int (216 : Int32)), (.int (246 : Int32)), (.int (248 : Int32)), (.int (893 : Int32)), (.int (895 : Int32)), (.int (8191 : Int32)), (.int (8204 : Int32)), (.int (8205 : Int32)), (.int (8255 : Int32)), (.int (8256 : Int32)), (.int (8304 : Int32)), (.int (8591 : Int32)), (.int (0 : Int32)), (.int (0 : Int32)), (.int (0 : Int32)), (.int (0 : Int32)), (.int (0 : Int32)), (.int (0 : Int32)), (.int (0 : Int32)), (.int (0 : Int32)), (.int (0 : Int32)), (.int (0 : Int32))] (.int (0 : Int32)) := Arv.set Ar27 qc27 S27 M27 H27 G27 rfl W27 25 rfl (Nat.le_of_ble_eq_true rfl)
  show own_Go p e below _ (T27.setTop (mkF m 170 #[.val (.int p0), .val (.int p1), .val (.int p2), .unset, .unset, .unset, .unset] [(.ref b1)]))
  refine own_st (fun _ k => XS.dup X27.here hx rfl (hb hby at_170) rfl rfl k) ?_
  show own_Go p e below _ (T27.setTop (mkF m 171 #[.val (.int p0), .val (.int p1), .val (.int p2), .unset, .unset, .unset, .unset] [(.ref b1), (.ref b1)]))
  refine own_st (fun _ k => XS.bipush X27.here hx rfl (hb hby at_171) k) ?_
  show own_Go p e below _ (T27.setTop (mkF m 173 #[.val (.int p0), .val (.int p1), .val (.int p2), .unset, .unset, .unset, .unset] [(.int (26 : Int32)), (.ref b1), (.ref b1)]))
  refine own_st (fun _ k => XS.sipush X27.here hx rfl (hb hby at_173) k) ?_
  show own_Go p e below _ (T27.setTop (mkF m 176 #[.val (.int p0), .val (.int p1), .val (.int p2), .unset, .unset, .unset, .unset] [(.int (11264 : Int32)), (.int (26 : Int32)), (.ref b1), (.ref b1)]))
  obtain ⟨cl28, Ar28, qc28, S28, M28, H28, G28⟩ := V_b1
  obtain ⟨T28, h28, X28, e28, W28, st28⟩ := stI X27 hx hZ e27 Ar28 (j := (26 : Int32)) (inb_of S28 ⟨by decide, by decide⟩) (g := (mkF m 176 #[.val (.int p0), .val (.int p1), .val (.int p2), .unset, .unset, .unset, .unset] [(.int (11264 : Int32)), (.int (26 : Int32)), (.ref b1), (.ref b1)])) rfl rfl (hb hby at_176)
  refine own_st st28 ?_
  replace Z0 := Nat.le_trans Z0 (Nat.le_of_eq W28.size.symm)
  replace N0 := Fr.snoc X28 N0 g_b1
  have V_b1 : Arv Z h28 b1 k1 .int (36 : Int32) [(.int (45 : Int32)), (.int (45 : Int32)), (.int (48 : Int32)), (.int (57 : Int32)), (.int (65 : Int32)), (.int (90 : Int32)), (.int (95 : Int32)), (.int (95 : Int32)), (.int (97 : Int32)), (.int (122 : Int32)), (.int (183 : Int32)), (.int (183 : Int32)), (.int (192 : Int32)), (.int (214 : Int32)), (.int (216 : Int32)), (.int (246 : Int32)), (.int (248 : Int32)), (.int (893 : Int32)), (.int (895 : Int32)), (.int (8191 : Int32)), (.int (8204 : Int32)), (.int (8205 : Int32)), (.int (8255 : Int32)), (.int (8256 : Int32)), (.int (8304 : Int32)), (.int (8591 : Int32)), (.int (11264 : Int32)), (.int (0 : Int32)), (.int (0 : Int32)), (.int (0 : Int32)), (.int (0 : Int32)), (.int (0 : Int32)), (.int (0 : Int32)), (.int (0 : Int32)), (.int (0 : Int32)), (.int (0 : Int32))] (.int (0 : Int32)) := Arv.set Ar28 qc28 S28 M28 H28 G28 rfl W28 26 rfl (Nat.le_of_ble_eq_true rfl)
  show own_Go p e below _ (T28.setTop (mkF m 177 #[.val (.int p0), .val (.int p1), .val (.int p2), .unset, .unset, .unset, .unset] [(.ref b1)]))
  refine own_st (fun _ k => XS.dup X28.here hx rfl (hb hby at_177) rfl rfl k) ?_
  show own_Go p e below _ (T28.setTop (mkF m 178 #[.val (.int p0), .val (.int p1), .val (.int p2), .unset, .unset, .unset, .unset] [(.ref b1), (.ref b1)]))
  refine own_st (fun _ k => XS.bipush X28.here hx rfl (hb hby at_178) k) ?_
  show own_Go p e below _ (T28.setTop (mkF m 180 #[.val (.int p0), .val (.int p1), .val (.int p2), .unset, .unset, .unset, .unset] [(.int (27 : Int32)), (.ref b1), (.ref b1)]))
  refine own_st (fun _ k => XS.sipush X28.here hx rfl (hb hby at_180) k) ?_
  show own_Go p e below _ (T28.setTop (mkF m 183 #[.val (.int p0), .val (.int p1), .val (.int p2), .unset, .unset, .unset, .unset] [(.int (12271 : Int32)), (.int (27 : Int32)), (.ref b1), (.ref b1)]))
  obtain ⟨cl29, Ar29, qc29, S29, M29, H29, G29⟩ := V_b1
  obtain ⟨T29, h29, X29, e29, W29, st29⟩ := stI X28 hx hZ e28 Ar29 (j := (27 : Int32)) (inb_of S29 ⟨by decide, by decide⟩) (g := (mkF m 183 #[.val (.int p0), .val (.int p1), .val (.int p2), .unset, .unset, .unset, .unset] [(.int (12271 : Int32)), (.int (27 : Int32)), (.ref b1), (.ref b1)])) rfl rfl (hb hby at_183)
  refine own_st st29 ?_
  replace Z0 := Nat.le_trans Z0 (Nat.le_of_eq W29.size.symm)
  replace N0 := Fr.snoc X29 N0 g_b1
  have V_b1 : Arv Z h29 b1 k1 .int (36 : Int32) [(.int (45 : Int32)), (.int (45 : Int32)), (.int (48 : Int32)), (.int (57 : Int32)), (.int (65 : Int32)), (.int (90 : Int32)), (.int (95 : Int32)), (.int (95 : Int32)), (.int (97 : Int32)), (.int (122 : Int32)), (.int (183 : Int32)), (.int (183 : Int32)), (.int (192 : Int32)), (.int (214 : Int32)), (.int (216 : Int32)), (.int (246 : Int32)), (.int (248 : Int32)), (.int (893 : Int32)), (.int (895 : Int32)), (.int (8191 : Int32)), (.int (8204 : Int32)), (.int (8205 : Int32)), (.int (8255 : Int32)), (.int (8256 : Int32)), (.int (8304 : Int32)), (.int (8591 : Int32)), (.int (11264 : Int32)), (.int (12271 : Int32)), (.int (0 : Int32)), (.int (0 : Int32)), (.int (0 : Int32)), (.int (0 : Int32)), (.int (0 : Int32)), (.int (0 : Int32)), (.int (0 : Int32)), (.int (0 : Int32))] (.int (0 : Int32)) := Arv.set Ar29 qc29 S29 M29 H29 G29 rfl W29 27 rfl (Nat.le_of_ble_eq_true rfl)
  show own_Go p e below _ (T29.setTop (mkF m 184 #[.val (.int p0), .val (.int p1), .val (.int p2), .unset, .unset, .unset, .unset] [(.ref b1)]))
  refine own_st (fun _ k => XS.dup X29.here hx rfl (hb hby at_184) rfl rfl k) ?_
  show own_Go p e below _ (T29.setTop (mkF m 185 #[.val (.int p0), .val (.int p1), .val (.int p2), .unset, .unset, .unset, .unset] [(.ref b1), (.ref b1)]))
  refine own_st (fun _ k => XS.bipush X29.here hx rfl (hb hby at_185) k) ?_
  show own_Go p e below _ (T29.setTop (mkF m 187 #[.val (.int p0), .val (.int p1), .val (.int p2), .unset, .unset, .unset, .unset] [(.int (28 : Int32)), (.ref b1), (.ref b1)]))
  refine own_st (fun _ k => XS.sipush X29.here hx rfl (hb hby at_187) k) ?_
  show own_Go p e below _ (T29.setTop (mkF m 190 #[.val (.int p0), .val (.int p1), .val (.int p2), .unset, .unset, .unset, .unset] [(.int (12289 : Int32)), (.int (28 : Int32)), (.ref b1), (.ref b1)]))
  obtain ⟨cl30, Ar30, qc30, S30, M30, H30, G30⟩ := V_b1
  obtain ⟨T30, h30, X30, e30, W30, st30⟩ := stI X29 hx hZ e29 Ar30 (j := (28 : Int32)) (inb_of S30 ⟨by decide, by decide⟩) (g := (mkF m 190 #[.val (.int p0), .val (.int p1), .val (.int p2), .unset, .unset, .unset, .unset] [(.int (12289 : Int32)), (.int (28 : Int32)), (.ref b1), (.ref b1)])) rfl rfl (hb hby at_190)
  refine own_st st30 ?_
  replace Z0 := Nat.le_trans Z0 (Nat.le_of_eq W30.size.symm)
  replace N0 := Fr.snoc X30 N0 g_b1
  have V_b1 : Arv Z h30 b1 k1 .int (36 : Int32) [(.int (45 : Int32)), (.int (45 : Int32)), (.int (48 : Int32)), (.int (57 : Int32)), (.int (65 : Int32)), (.int (90 : Int32)), (.int (95 : Int32)), (.int (95 : Int32)), (.int (97 : Int32)), (.int (122 : Int32)), (.int (183 : Int32)), (.int (183 : Int32)), (.int (192 : Int32)), (.int (214 : Int32)), (.int (216 : Int32)), (.int (246 : Int32)), (.int (248 : Int32)), (.int (893 : Int32)), (.int (895 : Int32)), (.int (8191 : Int32)), (.int (8204 : Int32)), (.int (8205 : Int32)), (.int (8255 : Int32)), (.int (8256 : Int32)), (.int (8304 : Int32)), (.int (8591 : Int32)), (.int (11264 : Int32)), (.int (12271 : Int32)), (.int (12289 : Int32)), (.int (0 : Int32)), (.int (0 : Int32)), (.int (0 : Int32)), (.int (0 : Int32)), (.int (0 : Int32)), (.int (0 : Int32)), (.int (0 : Int32))] (.int (0 : Int32)) := Arv.set Ar30 qc30 S30 M30 H30 G30 rfl W30 28 rfl (Nat.le_of_ble_eq_true rfl)
  show own_Go p e below _ (T30.setTop (mkF m 191 #[.val (.int p0), .val (.int p1), .val (.int p2), .unset, .unset, .unset, .unset] [(.ref b1)]))
  refine own_st (fun _ k => XS.dup X30.here hx rfl (hb hby at_191) rfl rfl k) ?_
  show own_Go p e below _ (T30.setTop (mkF m 192 #[.val (.int p0), .val (.int p1), .val (.int p2), .unset, .unset, .unset, .unset] [(.ref b1), (.ref b1)]))
  refine own_st (fun _ k => XS.bipush X30.here hx rfl (hb hby at_192) k) ?_
  show own_Go p e below _ (T30.setTop (mkF m 194 #[.val (.int p0), .val (.int p1), .val (.int p2), .unset, .unset, .unset, .unset] [(.int (29 : Int32)), (.ref b1), (.ref b1)]))
  refine own_st (fun _ k => X30.ldcInt hx hown (mvT hZ (hw _ (List.mem_of_getElem? (i := 1) rfl))) (g := (mkF m 194 #[.val (.int p0), .val (.int p1), .val (.int p2), .unset, .unset, .unset, .unset] [(.int (29 : Int32)), (.ref b1), (.ref b1)])) rfl (hb hby at_194) _ k) ?_
  show own_Go p e below _ (T30.setTop (mkF m 196 #[.val (.int p0), .val (.int p1), .val (.int p2), .unset, .unset, .unset, .unset] [(.int (55295 : Int32)), (.int (29 : Int32)), (.ref b1), (.ref b1)]))
  obtain ⟨cl31, Ar31, qc31, S31, M31, H31, G31⟩ := V_b1
  obtain ⟨T31, h31, X31, e31, W31, st31⟩ := stI X30 hx hZ e30 Ar31 (j := (29 : Int32)) (inb_of S31 ⟨by decide, by decide⟩) (g := (mkF m 196 #[.val (.int p0), .val (.int p1), .val (.int p2), .unset, .unset, .unset, .unset] [(.int (55295 : Int32)), (.int (29 : Int32)), (.ref b1), (.ref b1)])) rfl rfl (hb hby at_196)
  refine own_st st31 ?_
  replace Z0 := Nat.le_trans Z0 (Nat.le_of_eq W31.size.symm)
  replace N0 := Fr.snoc X31 N0 g_b1
  have V_b1 : Arv Z h31 b1 k1 .int (36 : Int32) [(.int (45 : Int32)), (.int (45 : Int32)), (.int (48 : Int32)), (.int (57 : Int32)), (.int (65 : Int32)), (.int (90 : Int32)), (.int (95 : Int32)), (.int (95 : Int32)), (.int (97 : Int32)), (.int (122 : Int32)), (.int (183 : Int32)), (.int (183 : Int32)), (.int (192 : Int32)), (.int (214 : Int32)), (.int (216 : Int32)), (.int (246 : Int32)), (.int (248 : Int32)), (.int (893 : Int32)), (.int (895 : Int32)), (.int (8191 : Int32)), (.int (8204 : Int32)), (.int (8205 : Int32)), (.int (8255 : Int32)), (.int (8256 : Int32)), (.int (8304 : Int32)), (.int (8591 : Int32)), (.int (11264 : Int32)), (.int (12271 : Int32)), (.int (12289 : Int32)), (.int (55295 : Int32)), (.int (0 : Int32)), (.int (0 : Int32)), (.int (0 : Int32)), (.int (0 : Int32)), (.int (0 : Int32)), (.int (0 : Int32))] (.int (0 : Int32)) := Arv.set Ar31 qc31 S31 M31 H31 G31 rfl W31 29 rfl (Nat.le_of_ble_eq_true rfl)
  show own_Go p e below _ (T31.setTop (mkF m 197 #[.val (.int p0), .val (.int p1), .val (.int p2), .unset, .unset, .unset, .unset] [(.ref b1)]))
  refine own_st (fun _ k => XS.dup X31.here hx rfl (hb hby at_197) rfl rfl k) ?_
  show own_Go p e below _ (T31.setTop (mkF m 198 #[.val (.int p0), .val (.int p1), .val (.int p2), .unset, .unset, .unset, .unset] [(.ref b1), (.ref b1)]))
  refine own_st (fun _ k => XS.bipush X31.here hx rfl (hb hby at_198) k) ?_
  show own_Go p e below _ (T31.setTop (mkF m 200 #[.val (.int p0), .val (.int p1), .val (.int p2), .unset, .unset, .unset, .unset] [(.int (30 : Int32)), (.ref b1), (.ref b1)]))
  refine own_st (fun _ k => X31.ldcInt hx hown (mvT hZ (hw _ (List.mem_of_getElem? (i := 2) rfl))) (g := (mkF m 200 #[.val (.int p0), .val (.int p1), .val (.int p2), .unset, .unset, .unset, .unset] [(.int (30 : Int32)), (.ref b1), (.ref b1)])) rfl (hb hby at_200) _ k) ?_
  show own_Go p e below _ (T31.setTop (mkF m 202 #[.val (.int p0), .val (.int p1), .val (.int p2), .unset, .unset, .unset, .unset] [(.int (63744 : Int32)), (.int (30 : Int32)), (.ref b1), (.ref b1)]))
  obtain ⟨cl32, Ar32, qc32, S32, M32, H32, G32⟩ := V_b1
  obtain ⟨T32, h32, X32, e32, W32, st32⟩ := stI X31 hx hZ e31 Ar32 (j := (30 : Int32)) (inb_of S32 ⟨by decide, by decide⟩) (g := (mkF m 202 #[.val (.int p0), .val (.int p1), .val (.int p2), .unset, .unset, .unset, .unset] [(.int (63744 : Int32)), (.int (30 : Int32)), (.ref b1), (.ref b1)])) rfl rfl (hb hby at_202)
  refine own_st st32 ?_
  replace Z0 := Nat.le_trans Z0 (Nat.le_of_eq W32.size.symm)
  replace N0 := Fr.snoc X32 N0 g_b1
  have V_b1 : Arv Z h32 b1 k1 .int (36 : Int32) [(.int (45 : Int32)), (.int (45 : Int32)), (.int (48 : Int32)), (.int (57 : Int32)), (.int (65 : Int32)), (.int (90 : Int32)), (.int (95 : Int32)), (.int (95 : Int32)), (.int (97 : Int32)), (.int (122 : Int32)), (.int (183 : Int32)), (.int (183 : Int32)), (.int (192 : Int32)), (.int (214 : Int32)), (.int (216 : Int32)), (.int (246 : Int32)), (.int (248 : Int32)), (.int (893 : Int32)), (.int (895 : Int32)), (.int (8191 : Int32)), (.int (8204 : Int32)), (.int (8205 : Int32)), (.int (8255 : Int32)), (.int (8256 : Int32)), (.int (8304 : Int32)), (.int (8591 : Int32)), (.int (11264 : Int32)), (.int (12271 : Int32)), (.int (12289 : Int32)), (.int (55295 : Int32)), (.int (63744 : Int32)), (.int (0 : Int32)), (.int (0 : Int32)), (.int (0 : Int32)), (.int (0 : Int32)), (.int (0 : Int32))] (.int (0 : Int32)) := Arv.set Ar32 qc32 S32 M32 H32 G32 rfl W32 30 rfl (Nat.le_of_ble_eq_true rfl)
  show own_Go p e below _ (T32.setTop (mkF m 203 #[.val (.int p0), .val (.int p1), .val (.int p2), .unset, .unset, .unset, .unset] [(.ref b1)]))
  refine own_st (fun _ k => XS.dup X32.here hx rfl (hb hby at_203) rfl rfl k) ?_
  show own_Go p e below _ (T32.setTop (mkF m 204 #[.val (.int p0), .val (.int p1), .val (.int p2), .unset, .unset, .unset, .unset] [(.ref b1), (.ref b1)]))
  refine own_st (fun _ k => XS.bipush X32.here hx rfl (hb hby at_204) k) ?_
  show own_Go p e below _ (T32.setTop (mkF m 206 #[.val (.int p0), .val (.int p1), .val (.int p2), .unset, .unset, .unset, .unset] [(.int (31 : Int32)), (.ref b1), (.ref b1)]))
  refine own_st (fun _ k => X32.ldcInt hx hown (mvT hZ (hw _ (List.mem_of_getElem? (i := 3) rfl))) (g := (mkF m 206 #[.val (.int p0), .val (.int p1), .val (.int p2), .unset, .unset, .unset, .unset] [(.int (31 : Int32)), (.ref b1), (.ref b1)])) rfl (hb hby at_206) _ k) ?_
  show own_Go p e below _ (T32.setTop (mkF m 208 #[.val (.int p0), .val (.int p1), .val (.int p2), .unset, .unset, .unset, .unset] [(.int (64975 : Int32)), (.int (31 : Int32)), (.ref b1), (.ref b1)]))
  obtain ⟨cl33, Ar33, qc33, S33, M33, H33, G33⟩ := V_b1
  obtain ⟨T33, h33, X33, e33, W33, st33⟩ := stI X32 hx hZ e32 Ar33 (j := (31 : Int32)) (inb_of S33 ⟨by decide, by decide⟩) (g := (mkF m 208 #[.val (.int p0), .val (.int p1), .val (.int p2), .unset, .unset, .unset, .unset] [(.int (64975 : Int32)), (.int (31 : Int32)), (.ref b1), (.ref b1)])) rfl rfl (hb hby at_208)
  refine own_st st33 ?_
  replace Z0 := Nat.le_trans Z0 (Nat.le_of_eq W33.size.symm)
  replace N0 := Fr.snoc X33 N0 g_b1
  have V_b1 : Arv Z h33 b1 k1 .int (36 : Int32) [(.int (45 : Int32)), (.int (45 : Int32)), (.int (48 : Int32)), (.int (57 : Int32)), (.int (65 : Int32)), (.int (90 : Int32)), (.int (95 : Int32)), (.int (95 : Int32)), (.int (97 : Int32)), (.int (122 : Int32)), (.int (183 : Int32)), (.int (183 : Int32)), (.int (192 : Int32)), (.int (214 : Int32)), (.int (216 : Int32)), (.int (246 : Int32)), (.int (248 : Int32)), (.int (893 : Int32)), (.int (895 : Int32)), (.int (8191 : Int32)), (.int (8204 : Int32)), (.int (8205 : Int32)), (.int (8255 : Int32)), (.int (8256 : Int32)), (.int (8304 : Int32)), (.int (8591 : Int32)), (.int (11264 : Int32)), (.int (12271 : Int32)), (.int (12289 : Int32)), (.int (55295 : Int32)), (.int (63744 : Int32)), (.int (64975 : Int32)), (.int (0 : Int32)), (.int (0 : Int32)), (.int (0 : Int32)), (.int (0 : Int32))] (.int (0 : Int32)) := Arv.set Ar33 qc33 S33 M33 H33 G33 rfl W33 31 rfl (Nat.le_of_ble_eq_true rfl)
  show own_Go p e below _ (T33.setTop (mkF m 209 #[.val (.int p0), .val (.int p1), .val (.int p2), .unset, .unset, .unset, .unset] [(.ref b1)]))
  refine own_st (fun _ k => XS.dup X33.here hx rfl (hb hby at_209) rfl rfl k) ?_
  show own_Go p e below _ (T33.setTop (mkF m 210 #[.val (.int p0), .val (.int p1), .val (.int p2), .unset, .unset, .unset, .unset] [(.ref b1), (.ref b1)]))
  refine own_st (fun _ k => XS.bipush X33.here hx rfl (hb hby at_210) k) ?_
  show own_Go p e below _ (T33.setTop (mkF m 212 #[.val (.int p0), .val (.int p1), .val (.int p2), .unset, .unset, .unset, .unset] [(.int (32 : Int32)), (.ref b1), (.ref b1)]))
  refine own_st (fun _ k => X33.ldcInt hx hown (mvT hZ (hw _ (List.mem_of_getElem? (i := 4) rfl))) (g := (mkF m 212 #[.val (.int p0), .val (.int p1), .val (.int p2), .unset, .unset, .unset, .unset] [(.int (32 : Int32)), (.ref b1), (.ref b1)])) rfl (hb hby at_212) _ k) ?_
  show own_Go p e below _ (T33.setTop (mkF m 214 #[.val (.int p0), .val (.int p1), .val (.int p2), .unset, .unset, .unset, .unset] [(.int (65008 : Int32)), (.int (32 : Int32)), (.ref b1), (.ref b1)]))
  obtain ⟨cl34, Ar34, qc34, S34, M34, H34, G34⟩ := V_b1
  obtain ⟨T34, h34, X34, e34, W34, st34⟩ := stI X33 hx hZ e33 Ar34 (j := (32 : Int32)) (inb_of S34 ⟨by decide, by decide⟩) (g := (mkF m 214 #[.val (.int p0), .val (.int p1), .val (.int p2), .unset, .unset, .unset, .unset] [(.int (65008 : Int32)), (.int (32 : Int32)), (.ref b1), (.ref b1)])) rfl rfl (hb hby at_214)
  refine own_st st34 ?_
  replace Z0 := Nat.le_trans Z0 (Nat.le_of_eq W34.size.symm)
  replace N0 := Fr.snoc X34 N0 g_b1
  have V_b1 : Arv Z h34 b1 k1 .int (36 : Int32) [(.int (45 : Int32)), (.int (45 : Int32)), (.int (48 : Int32)), (.int (57 : Int32)), (.int (65 : Int32)), (.int (90 : Int32)), (.int (95 : Int32)), (.int (95 : Int32)), (.int (97 : Int32)), (.int (122 : Int32)), (.int (183 : Int32)), (.int (183 : Int32)), (.int (192 : Int32)), (.int (214 : Int32)), (.int (216 : Int32)), (.int (246 : Int32)), (.int (248 : Int32)), (.int (893 : Int32)), (.int (895 : Int32)), (.int (8191 : Int32)), (.int (8204 : Int32)), (.int (8205 : Int32)), (.int (8255 : Int32)), (.int (8256 : Int32)), (.int (8304 : Int32)), (.int (8591 : Int32)), (.int (11264 : Int32)), (.int (12271 : Int32)), (.int (12289 : Int32)), (.int (55295 : Int32)), (.int (63744 : Int32)), (.int (64975 : Int32)), (.int (65008 : Int32)), (.int (0 : Int32)), (.int (0 : Int32)), (.int (0 : Int32))] (.int (0 : Int32)) := Arv.set Ar34 qc34 S34 M34 H34 G34 rfl W34 32 rfl (Nat.le_of_ble_eq_true rfl)
  show own_Go p e below _ (T34.setTop (mkF m 215 #[.val (.int p0), .val (.int p1), .val (.int p2), .unset, .unset, .unset, .unset] [(.ref b1)]))
  refine own_st (fun _ k => XS.dup X34.here hx rfl (hb hby at_215) rfl rfl k) ?_
  show own_Go p e below _ (T34.setTop (mkF m 216 #[.val (.int p0), .val (.int p1), .val (.int p2), .unset, .unset, .unset, .unset] [(.ref b1), (.ref b1)]))
  refine own_st (fun _ k => XS.bipush X34.here hx rfl (hb hby at_216) k) ?_
  show own_Go p e below _ (T34.setTop (mkF m 218 #[.val (.int p0), .val (.int p1), .val (.int p2), .unset, .unset, .unset, .unset] [(.int (33 : Int32)), (.ref b1), (.ref b1)]))
  refine own_st (fun _ k => X34.ldcInt hx hown (mvT hZ (hw _ (List.mem_of_getElem? (i := 5) rfl))) (g := (mkF m 218 #[.val (.int p0), .val (.int p1), .val (.int p2), .unset, .unset, .unset, .unset] [(.int (33 : Int32)), (.ref b1), (.ref b1)])) rfl (hb hby at_218) _ k) ?_
  show own_Go p e below _ (T34.setTop (mkF m 220 #[.val (.int p0), .val (.int p1), .val (.int p2), .unset, .unset, .unset, .unset] [(.int (65533 : Int32)), (.int (33 : Int32)), (.ref b1), (.ref b1)]))
  obtain ⟨cl35, Ar35, qc35, S35, M35, H35, G35⟩ := V_b1
  obtain ⟨T35, h35, X35, e35, W35, st35⟩ := stI X34 hx hZ e34 Ar35 (j := (33 : Int32)) (inb_of S35 ⟨by decide, by decide⟩) (g := (mkF m 220 #[.val (.int p0), .val (.int p1), .val (.int p2), .unset, .unset, .unset, .unset] [(.int (65533 : Int32)), (.int (33 : Int32)), (.ref b1), (.ref b1)])) rfl rfl (hb hby at_220)
  refine own_st st35 ?_
  replace Z0 := Nat.le_trans Z0 (Nat.le_of_eq W35.size.symm)
  replace N0 := Fr.snoc X35 N0 g_b1
  have V_b1 : Arv Z h35 b1 k1 .int (36 : Int32) [(.int (45 : Int32)), (.int (45 : Int32)), (.int (48 : Int32)), (.int (57 : Int32)), (.int (65 : Int32)), (.int (90 : Int32)), (.int (95 : Int32)), (.int (95 : Int32)), (.int (97 : Int32)), (.int (122 : Int32)), (.int (183 : Int32)), (.int (183 : Int32)), (.int (192 : Int32)), (.int (214 : Int32)), (.int (216 : Int32)), (.int (246 : Int32)), (.int (248 : Int32)), (.int (893 : Int32)), (.int (895 : Int32)), (.int (8191 : Int32)), (.int (8204 : Int32)), (.int (8205 : Int32)), (.int (8255 : Int32)), (.int (8256 : Int32)), (.int (8304 : Int32)), (.int (8591 : Int32)), (.int (11264 : Int32)), (.int (12271 : Int32)), (.int (12289 : Int32)), (.int (55295 : Int32)), (.int (63744 : Int32)), (.int (64975 : Int32)), (.int (65008 : Int32)), (.int (65533 : Int32)), (.int (0 : Int32)), (.int (0 : Int32))] (.int (0 : Int32)) := Arv.set Ar35 qc35 S35 M35 H35 G35 rfl W35 33 rfl (Nat.le_of_ble_eq_true rfl)
  show own_Go p e below _ (T35.setTop (mkF m 221 #[.val (.int p0), .val (.int p1), .val (.int p2), .unset, .unset, .unset, .unset] [(.ref b1)]))
  refine own_st (fun _ k => XS.dup X35.here hx rfl (hb hby at_221) rfl rfl k) ?_
  show own_Go p e below _ (T35.setTop (mkF m 222 #[.val (.int p0), .val (.int p1), .val (.int p2), .unset, .unset, .unset, .unset] [(.ref b1), (.ref b1)]))
  refine own_st (fun _ k => XS.bipush X35.here hx rfl (hb hby at_222) k) ?_
  show own_Go p e below _ (T35.setTop (mkF m 224 #[.val (.int p0), .val (.int p1), .val (.int p2), .unset, .unset, .unset, .unset] [(.int (34 : Int32)), (.ref b1), (.ref b1)]))
  refine own_st (fun _ k => X35.ldcInt hx hown (mvT hZ (hw _ (List.mem_of_getElem? (i := 6) rfl))) (g := (mkF m 224 #[.val (.int p0), .val (.int p1), .val (.int p2), .unset, .unset, .unset, .unset] [(.int (34 : Int32)), (.ref b1), (.ref b1)])) rfl (hb hby at_224) _ k) ?_
  show own_Go p e below _ (T35.setTop (mkF m 226 #[.val (.int p0), .val (.int p1), .val (.int p2), .unset, .unset, .unset, .unset] [(.int (65536 : Int32)), (.int (34 : Int32)), (.ref b1), (.ref b1)]))
  obtain ⟨cl36, Ar36, qc36, S36, M36, H36, G36⟩ := V_b1
  obtain ⟨T36, h36, X36, e36, W36, st36⟩ := stI X35 hx hZ e35 Ar36 (j := (34 : Int32)) (inb_of S36 ⟨by decide, by decide⟩) (g := (mkF m 226 #[.val (.int p0), .val (.int p1), .val (.int p2), .unset, .unset, .unset, .unset] [(.int (65536 : Int32)), (.int (34 : Int32)), (.ref b1), (.ref b1)])) rfl rfl (hb hby at_226)
  refine own_st st36 ?_
  replace Z0 := Nat.le_trans Z0 (Nat.le_of_eq W36.size.symm)
  replace N0 := Fr.snoc X36 N0 g_b1
  have V_b1 : Arv Z h36 b1 k1 .int (36 : Int32) [(.int (45 : Int32)), (.int (45 : Int32)), (.int (48 : Int32)), (.int (57 : Int32)), (.int (65 : Int32)), (.int (90 : Int32)), (.int (95 : Int32)), (.int (95 : Int32)), (.int (97 : Int32)), (.int (122 : Int32)), (.int (183 : Int32)), (.int (183 : Int32)), (.int (192 : Int32)), (.int (214 : Int32)), (.int (216 : Int32)), (.int (246 : Int32)), (.int (248 : Int32)), (.int (893 : Int32)), (.int (895 : Int32)), (.int (8191 : Int32)), (.int (8204 : Int32)), (.int (8205 : Int32)), (.int (8255 : Int32)), (.int (8256 : Int32)), (.int (8304 : Int32)), (.int (8591 : Int32)), (.int (11264 : Int32)), (.int (12271 : Int32)), (.int (12289 : Int32)), (.int (55295 : Int32)), (.int (63744 : Int32)), (.int (64975 : Int32)), (.int (65008 : Int32)), (.int (65533 : Int32)), (.int (65536 : Int32)), (.int (0 : Int32))] (.int (0 : Int32)) := Arv.set Ar36 qc36 S36 M36 H36 G36 rfl W36 34 rfl (Nat.le_of_ble_eq_true rfl)
  show own_Go p e below _ (T36.setTop (mkF m 227 #[.val (.int p0), .val (.int p1), .val (.int p2), .unset, .unset, .unset, .unset] [(.ref b1)]))
  refine own_st (fun _ k => XS.dup X36.here hx rfl (hb hby at_227) rfl rfl k) ?_
  show own_Go p e below _ (T36.setTop (mkF m 228 #[.val (.int p0), .val (.int p1), .val (.int p2), .unset, .unset, .unset, .unset] [(.ref b1), (.ref b1)]))
  refine own_st (fun _ k => XS.bipush X36.here hx rfl (hb hby at_228) k) ?_
  show own_Go p e below _ (T36.setTop (mkF m 230 #[.val (.int p0), .val (.int p1), .val (.int p2), .unset, .unset, .unset, .unset] [(.int (35 : Int32)), (.ref b1), (.ref b1)]))
  refine own_st (fun _ k => X36.ldcInt hx hown (mvT hZ (hw _ (List.mem_of_getElem? (i := 7) rfl))) (g := (mkF m 230 #[.val (.int p0), .val (.int p1), .val (.int p2), .unset, .unset, .unset, .unset] [(.int (35 : Int32)), (.ref b1), (.ref b1)])) rfl (hb hby at_230) _ k) ?_
  show own_Go p e below _ (T36.setTop (mkF m 232 #[.val (.int p0), .val (.int p1), .val (.int p2), .unset, .unset, .unset, .unset] [(.int (983039 : Int32)), (.int (35 : Int32)), (.ref b1), (.ref b1)]))
  obtain ⟨cl37, Ar37, qc37, S37, M37, H37, G37⟩ := V_b1
  obtain ⟨T37, h37, X37, e37, W37, st37⟩ := stI X36 hx hZ e36 Ar37 (j := (35 : Int32)) (inb_of S37 ⟨by decide, by decide⟩) (g := (mkF m 232 #[.val (.int p0), .val (.int p1), .val (.int p2), .unset, .unset, .unset, .unset] [(.int (983039 : Int32)), (.int (35 : Int32)), (.ref b1), (.ref b1)])) rfl rfl (hb hby at_232)
  refine own_st st37 ?_
  replace Z0 := Nat.le_trans Z0 (Nat.le_of_eq W37.size.symm)
  replace N0 := Fr.snoc X37 N0 g_b1
  have V_b1 : Arv Z h37 b1 k1 .int (36 : Int32) [(.int (45 : Int32)), (.int (45 : Int32)), (.int (48 : Int32)), (.int (57 : Int32)), (.int (65 : Int32)), (.int (90 : Int32)), (.int (95 : Int32)), (.int (95 : Int32)), (.int (97 : Int32)), (.int (122 : Int32)), (.int (183 : Int32)), (.int (183 : Int32)), (.int (192 : Int32)), (.int (214 : Int32)), (.int (216 : Int32)), (.int (246 : Int32)), (.int (248 : Int32)), (.int (893 : Int32)), (.int (895 : Int32)), (.int (8191 : Int32)), (.int (8204 : Int32)), (.int (8205 : Int32)), (.int (8255 : Int32)), (.int (8256 : Int32)), (.int (8304 : Int32)), (.int (8591 : Int32)), (.int (11264 : Int32)), (.int (12271 : Int32)), (.int (12289 : Int32)), (.int (55295 : Int32)), (.int (63744 : Int32)), (.int (64975 : Int32)), (.int (65008 : Int32)), (.int (65533 : Int32)), (.int (65536 : Int32)), (.int (983039 : Int32))] (.int (0 : Int32)) := Arv.set Ar37 qc37 S37 M37 H37 G37 rfl W37 35 rfl (Nat.le_of_ble_eq_true rfl)
  show own_Go p e below _ (T37.setTop (mkF m 233 #[.val (.int p0), .val (.int p1), .val (.int p2), .unset, .unset, .unset, .unset] [(.ref b1)]))
  refine own_st (fun _ k => XS.astoreN X37.here hx rfl (hb hby at_233) rfl rfl (l' := #[.val (.int p0), .val (.int p1), .val (.int p2), .val (.ref b1), .unset, .unset, .unset]) rfl k) ?_
  show own_Go p e below _ (T37.setTop (mkF m 234 #[.val (.int p0), .val (.int p1), .val (.int p2), .val (.ref b1), .unset, .unset, .unset] []))
  refine own_st (fun _ k => XS.aloadN X37.here hx rfl (hb hby at_234) rfl rfl k) ?_
  show own_Go p e below _ (T37.setTop (mkF m 235 #[.val (.int p0), .val (.int p1), .val (.int p2), .val (.ref b1), .unset, .unset, .unset] [(.ref b1)]))
  refine own_st (fun _ k => XS.iloadN X37.here hx rfl (hb hby at_235) rfl k) ?_
  show own_Go p e below _ (T37.setTop (mkF m 236 #[.val (.int p0), .val (.int p1), .val (.int p2), .val (.ref b1), .unset, .unset, .unset] [(.int p1), (.ref b1)]))
  refine own_st (fun _ k => X37.ldcInt hx hown (mvT hZ (hw _ (List.mem_of_getElem? (i := 8) rfl))) (g := (mkF m 236 #[.val (.int p0), .val (.int p1), .val (.int p2), .val (.ref b1), .unset, .unset, .unset] [(.int p1), (.ref b1)])) rfl (hb hby at_236) _ k) ?_
  show own_Go p e below _ (T37.setTop (mkF m 238 #[.val (.int p0), .val (.int p1), .val (.int p2), .val (.ref b1), .unset, .unset, .unset] [(.int (2147483647 : Int32)), (.int p1), (.ref b1)]))
  refine own_st (fun _ k => XS.iand X37.here hx rfl (hb hby at_238) rfl k) ?_
  show own_Go p e below _ (T37.setTop (mkF m 239 #[.val (.int p0), .val (.int p1), .val (.int p2), .val (.ref b1), .unset, .unset, .unset] [(.int (p1 &&& (2147483647 : Int32))), (.ref b1)]))
  refine own_st (fun _ k => XS.bipush X37.here hx rfl (hb hby at_239) k) ?_
  show own_Go p e below _ (T37.setTop (mkF m 241 #[.val (.int p0), .val (.int p1), .val (.int p2), .val (.ref b1), .unset, .unset, .unset] [(.int (36 : Int32)), (.int (p1 &&& (2147483647 : Int32))), (.ref b1)]))
  refine own_st (fun _ k => iremM X37 hx rfl (hb hby at_241) rfl (by decide) k) ?_
  show own_Go p e below _ (T37.setTop (mkF m 242 #[.val (.int p0), .val (.int p1), .val (.int p2), .val (.ref b1), .unset, .unset, .unset] [(.int ((p1 &&& (2147483647 : Int32)) % (36 : Int32))), (.ref b1)]))
  obtain ⟨cl38, v38, Ar38, hin38, hat38⟩ := own_ldI V_b1 (j := ((p1 &&& (2147483647 : Int32)) % (36 : Int32))) (own_ix p1)
  refine own_st (fun _ k => X37.iaload hx (j := ((p1 &&& (2147483647 : Int32)) % (36 : Int32))) (v := (.int v38)) (by rw [e37]; exact Ar38.1) (State.isArrayOf_alike hZ.alike Ar38.2.1) Ar38.2.2 hin38 hat38 (g := (mkF m 242 #[.val (.int p0), .val (.int p1), .val (.int p2), .val (.ref b1), .unset, .unset, .unset] [(.int ((p1 &&& (2147483647 : Int32)) % (36 : Int32))), (.ref b1)])) rfl rfl (hb hby at_242) _ k) ?_
  show own_Go p e below _ (T37.setTop (mkF m 243 #[.val (.int p0), .val (.int p1), .val (.int p2), .val (.ref b1), .unset, .unset, .unset] [(.int v38)]))
  refine own_st (fun _ k => XS.iloadN X37.here hx rfl (hb hby at_243) rfl k) ?_
  show own_Go p e below _ (T37.setTop (mkF m 244 #[.val (.int p0), .val (.int p1), .val (.int p2), .val (.ref b1), .unset, .unset, .unset] [(.int p2), (.int v38)]))
  refine own_st (fun _ k => XS.iconst X37.here hx rfl (hb hby at_244) k) ?_
  show own_Go p e below _ (T37.setTop (mkF m 245 #[.val (.int p0), .val (.int p1), .val (.int p2), .val (.ref b1), .unset, .unset, .unset] [(.int (3 : Int32)), (.int p2), (.int v38)]))
  refine own_st (fun _ k => XS.iand X37.here hx rfl (hb hby at_245) rfl k) ?_
  show own_Go p e below _ (T37.setTop (mkF m 246 #[.val (.int p0), .val (.int p1), .val (.int p2), .val (.ref b1), .unset, .unset, .unset] [(.int (p2 &&& (3 : Int32))), (.int v38)]))
  refine own_st (fun _ k => XS.iconst X37.here hx rfl (hb hby at_246) k) ?_
  show own_Go p e below _ (T37.setTop (mkF m 247 #[.val (.int p0), .val (.int p1), .val (.int p2), .val (.ref b1), .unset, .unset, .unset] [(.int (1 : Int32)), (.int (p2 &&& (3 : Int32))), (.int v38)]))
  refine own_st (fun _ k => XS.isub X37.here hx rfl (hb hby at_247) rfl k) ?_
  show own_Go p e below _ (T37.setTop (mkF m 248 #[.val (.int p0), .val (.int p1), .val (.int p2), .val (.ref b1), .unset, .unset, .unset] [(.int ((p2 &&& (3 : Int32)) - (1 : Int32))), (.int v38)]))
  refine own_st (fun _ k => XS.iadd X37.here hx rfl (hb hby at_248) rfl k) ?_
  show own_Go p e below _ (T37.setTop (mkF m 249 #[.val (.int p0), .val (.int p1), .val (.int p2), .val (.ref b1), .unset, .unset, .unset] [(.int (v38 + ((p2 &&& (3 : Int32)) - (1 : Int32))))]))
  refine own_st (fun _ k => XS.istore X37.here hx rfl (hb hby at_249) rfl (l' := #[.val (.int p0), .val (.int p1), .val (.int p2), .val (.ref b1), .val (.int (v38 + ((p2 &&& (3 : Int32)) - (1 : Int32)))), .unset, .unset]) rfl k) ?_
  show own_Go p e below _ (T37.setTop (mkF m 251 #[.val (.int p0), .val (.int p1), .val (.int p2), .val (.ref b1), .val (.int (v38 + ((p2 &&& (3 : Int32)) - (1 : Int32)))), .unset, .unset] []))
  refine own_st (fun _ k => XS.iloadN X37.here hx rfl (hb hby at_251) rfl k) ?_
  show own_Go p e below _ (T37.setTop (mkF m 252 #[.val (.int p0), .val (.int p1), .val (.int p2), .val (.ref b1), .val (.int (v38 + ((p2 &&& (3 : Int32)) - (1 : Int32)))), .unset, .unset] [(.int p0)]))
  obtain ⟨_, T39, _, X39, ⟨rfl, rfl, e39⟩, st39⟩ := own_callS X37 hx hZ (y := (⟨"com/example/hornbeam/hornbeam/rdf/NameCharacters", "isPnChars", "(I)Z"⟩ : MethodName)) (argsL := [(.int p0)]) (rest := []) (W := 0) (g := (mkF m 252 #[.val (.int p0), .val (.int p1), .val (.int p2), .val (.ref b1), .val (.int (v38 + ((p2 &&& (3 : Int32)) - (1 : Int32)))), .unset, .unset] [(.int p0)])) (rm1 l Z tA hw p0 h37) hown (hw _ (List.mem_of_getElem? (i := 9) rfl)) (hw _ (List.mem_of_getElem? (i := 10) rfl)) (hw _ (List.mem_of_getElem? (i := 11) rfl)) (hw _ (List.mem_of_getElem? (i := 12) rfl)) (by decide) e37 rfl (by rw [hml]; rfl) pd_0 rfl rfl (by show 2 * 0 + _ ≤ _; exact Nat.le_of_eq rfl) (hb hby at_252) (by decide) (by decide) (by decide) (by decide)
  replace X39 := own_flat X39
  refine own_st st39 ?_
  show own_Go p e below _ (T39.setTop (mkF m 255 #[.val (.int p0), .val (.int p1), .val (.int p2), .val (.ref b1), .val (.int (v38 + ((p2 &&& (3 : Int32)) - (1 : Int32)))), .unset, .unset] [(.int (own_a_0 p0))]))
  refine own_st (fun _ k => XS.iloadN X39.here hx rfl (hb hby at_255) rfl k) ?_
  show own_Go p e below _ (T39.setTop (mkF m 256 #[.val (.int p0), .val (.int p1), .val (.int p2), .val (.ref b1), .val (.int (v38 + ((p2 &&& (3 : Int32)) - (1 : Int32)))), .unset, .unset] [(.int p0), (.int (own_a_0 p0))]))
  obtain ⟨_, T40, _, X40, ⟨rfl, rfl, e40⟩, st40⟩ := own_callS X39 hx hZ (y := (⟨"com/example/hornbeam/hornbeam/rdf/NameCharactersIsPnCharsPinLaw", "ref", "(I)Z"⟩ : MethodName)) (argsL := [(.int p0)]) (rest := [(.int (own_a_0 p0))]) (W := 1) (g := (mkF m 256 #[.val (.int p0), .val (.int p1), .val (.int p2), .val (.ref b1), .val (.int (v38 + ((p2 &&& (3 : Int32)) - (1 : Int32)))), .unset, .unset] [(.int p0), (.int (own_a_0 p0))])) (rm3 l Z tA hw p0 h37) hown (hw _ (List.mem_of_getElem? (i := 19) rfl)) (hw _ (List.mem_of_getElem? (i := 20) rfl)) (hw _ (List.mem_of_getElem? (i := 21) rfl)) (hw _ (List.mem_of_getElem? (i := 22) rfl)) (by decide) e39 rfl (by rw [hml]; rfl) pd_0 rfl rfl (by show 2 * 0 + _ ≤ _; exact Nat.le_of_eq rfl) (hb hby at_256) (by decide) (by decide) (by decide) (by decide)
  replace X40 := own_flat X40
  refine own_st st40 ?_
  show own_Go p e below _ (T40.setTop (mkF m 259 #[.val (.int p0), .val (.int p1), .val (.int p2), .val (.ref b1), .val (.int (v38 + ((p2 &&& (3 : Int32)) - (1 : Int32)))), .unset, .unset] [(.int (own_r_0 p0)), (.int (own_a_0 p0))]))
  refine own_st (fun _ k => XS.icmpNo X40.here hx rfl (hb hby at_259) rfl ((own_i2 _ _ _).trans (own_nyes ((own_law _) : (own_a_0 p0) = (own_r_0 p0)))) k) ?_
  show own_Go p e below _ (T40.setTop (mkF m 262 #[.val (.int p0), .val (.int p1), .val (.int p2), .val (.ref b1), .val (.int (v38 + ((p2 &&& (3 : Int32)) - (1 : Int32)))), .unset, .unset] []))
  refine own_st (fun _ k => XS.iconst X40.here hx rfl (hb hby at_262) k) ?_
  show own_Go p e below _ (T40.setTop (mkF m 263 #[.val (.int p0), .val (.int p1), .val (.int p2), .val (.ref b1), .val (.int (v38 + ((p2 &&& (3 : Int32)) - (1 : Int32)))), .unset, .unset] [(.int (1 : Int32))]))
  refine own_st (fun _ k => XS.goto X40.here hx rfl (pc0 := 263) (pc' := 267) rfl (hb hby at_263) (by decide) (by decide) k) ?_
  show own_Go p e below _ (T40.setTop (mkF m 267 #[.val (.int p0), .val (.int p1), .val (.int p2), .val (.ref b1), .val (.int (v38 + ((p2 &&& (3 : Int32)) - (1 : Int32)))), .unset, .unset] [(.int (1 : Int32))]))
  refine own_st (fun _ k => XS.istore X40.here hx rfl (hb hby at_267) rfl (l' := #[.val (.int p0), .val (.int p1), .val (.int p2), .val (.ref b1), .val (.int (v38 + ((p2 &&& (3 : Int32)) - (1 : Int32)))), .val (.int (1 : Int32)), .unset]) rfl k) ?_
  show own_Go p e below _ (T40.setTop (mkF m 269 #[.val (.int p0), .val (.int p1), .val (.int p2), .val (.ref b1), .val (.int (v38 + ((p2 &&& (3 : Int32)) - (1 : Int32)))), .val (.int (1 : Int32)), .unset] []))
  refine own_st (fun _ k => XS.iload X40.here hx rfl (hb hby at_269) rfl k) ?_
  show own_Go p e below _ (T40.setTop (mkF m 271 #[.val (.int p0), .val (.int p1), .val (.int p2), .val (.ref b1), .val (.int (v38 + ((p2 &&& (3 : Int32)) - (1 : Int32)))), .val (.int (1 : Int32)), .unset] [(.int (v38 + ((p2 &&& (3 : Int32)) - (1 : Int32))))]))
  obtain ⟨_, T41, _, X41, ⟨rfl, rfl, e41⟩, st41⟩ := own_callS X40 hx hZ (y := (⟨"com/example/hornbeam/hornbeam/rdf/NameCharacters", "isPnChars", "(I)Z"⟩ : MethodName)) (argsL := [(.int (v38 + ((p2 &&& (3 : Int32)) - (1 : Int32))))]) (rest := []) (W := 0) (g := (mkF m 271 #[.val (.int p0), .val (.int p1), .val (.int p2), .val (.ref b1), .val (.int (v38 + ((p2 &&& (3 : Int32)) - (1 : Int32)))), .val (.int (1 : Int32)), .unset] [(.int (v38 + ((p2 &&& (3 : Int32)) - (1 : Int32))))])) (rm1 l Z tA hw (v38 + ((p2 &&& (3 : Int32)) - (1 : Int32))) h37) hown (hw _ (List.mem_of_getElem? (i := 9) rfl)) (hw _ (List.mem_of_getElem? (i := 10) rfl)) (hw _ (List.mem_of_getElem? (i := 11) rfl)) (hw _ (List.mem_of_getElem? (i := 12) rfl)) (by decide) e40 rfl (by rw [hml]; rfl) pd_0 rfl rfl (by show 2 * 0 + _ ≤ _; exact Nat.le_of_eq rfl) (hb hby at_271) (by decide) (by decide) (by decide) (by decide)
  replace X41 := own_flat X41
  refine own_st st41 ?_
  show own_Go p e below _ (T41.setTop (mkF m 274 #[.val (.int p0), .val (.int p1), .val (.int p2), .val (.ref b1), .val (.int (v38 + ((p2 &&& (3 : Int32)) - (1 : Int32)))), .val (.int (1 : Int32)), .unset] [(.int (own_a_0 (v38 + ((p2 &&& (3 : Int32)) - (1 : Int32)))))]))
  refine own_st (fun _ k => XS.iload X41.here hx rfl (hb hby at_274) rfl k) ?_
  show own_Go p e below _ (T41.setTop (mkF m 276 #[.val (.int p0), .val (.int p1), .val (.int p2), .val (.ref b1), .val (.int (v38 + ((p2 &&& (3 : Int32)) - (1 : Int32)))), .val (.int (1 : Int32)), .unset] [(.int (v38 + ((p2 &&& (3 : Int32)) - (1 : Int32)))), (.int (own_a_0 (v38 + ((p2 &&& (3 : Int32)) - (1 : Int32)))))]))
  obtain ⟨_, T42, _, X42, ⟨rfl, rfl, e42⟩, st42⟩ := own_callS X41 hx hZ (y := (⟨"com/example/hornbeam/hornbeam/rdf/NameCharactersIsPnCharsPinLaw", "ref", "(I)Z"⟩ : MethodName)) (argsL := [(.int (v38 + ((p2 &&& (3 : Int32)) - (1 : Int32))))]) (rest := [(.int (own_a_0 (v38 + ((p2 &&& (3 : Int32)) - (1 : Int32)))))]) (W := 1) (g := (mkF m 276 #[.val (.int p0), .val (.int p1), .val (.int p2), .val (.ref b1), .val (.int (v38 + ((p2 &&& (3 : Int32)) - (1 : Int32)))), .val (.int (1 : Int32)), .unset] [(.int (v38 + ((p2 &&& (3 : Int32)) - (1 : Int32)))), (.int (own_a_0 (v38 + ((p2 &&& (3 : Int32)) - (1 : Int32)))))])) (rm3 l Z tA hw (v38 + ((p2 &&& (3 : Int32)) - (1 : Int32))) h37) hown (hw _ (List.mem_of_getElem? (i := 19) rfl)) (hw _ (List.mem_of_getElem? (i := 20) rfl)) (hw _ (List.mem_of_getElem? (i := 21) rfl)) (hw _ (List.mem_of_getElem? (i := 22) rfl)) (by decide) e41 rfl (by rw [hml]; rfl) pd_0 rfl rfl (by show 2 * 0 + _ ≤ _; exact Nat.le_of_eq rfl) (hb hby at_276) (by decide) (by decide) (by decide) (by decide)
  replace X42 := own_flat X42
  refine own_st st42 ?_
  show own_Go p e below _ (T42.setTop (mkF m 279 #[.val (.int p0), .val (.int p1), .val (.int p2), .val (.ref b1), .val (.int (v38 + ((p2 &&& (3 : Int32)) - (1 : Int32)))), .val (.int (1 : Int32)), .unset] [(.int (own_r_0 (v38 + ((p2 &&& (3 : Int32)) - (1 : Int32))))), (.int (own_a_0 (v38 + ((p2 &&& (3 : Int32)) - (1 : Int32)))))]))
  refine own_st (fun _ k => XS.icmpNo X42.here hx rfl (hb hby at_279) rfl ((own_i2 _ _ _).trans (own_nyes ((own_law _) : (own_a_0 (v38 + ((p2 &&& (3 : Int32)) - (1 : Int32)))) = (own_r_0 (v38 + ((p2 &&& (3 : Int32)) - (1 : Int32))))))) k) ?_
  show own_Go p e below _ (T42.setTop (mkF m 282 #[.val (.int p0), .val (.int p1), .val (.int p2), .val (.ref b1), .val (.int (v38 + ((p2 &&& (3 : Int32)) - (1 : Int32)))), .val (.int (1 : Int32)), .unset] []))
  refine own_st (fun _ k => XS.iconst X42.here hx rfl (hb hby at_282) k) ?_
  show own_Go p e below _ (T42.setTop (mkF m 283 #[.val (.int p0), .val (.int p1), .val (.int p2), .val (.ref b1), .val (.int (v38 + ((p2 &&& (3 : Int32)) - (1 : Int32)))), .val (.int (1 : Int32)), .unset] [(.int (1 : Int32))]))
  refine own_st (fun _ k => XS.goto X42.here hx rfl (pc0 := 283) (pc' := 287) rfl (hb hby at_283) (by decide) (by decide) k) ?_
  show own_Go p e below _ (T42.setTop (mkF m 287 #[.val (.int p0), .val (.int p1), .val (.int p2), .val (.ref b1), .val (.int (v38 + ((p2 &&& (3 : Int32)) - (1 : Int32)))), .val (.int (1 : Int32)), .unset] [(.int (1 : Int32))]))
  refine own_st (fun _ k => XS.istore X42.here hx rfl (hb hby at_287) rfl (l' := #[.val (.int p0), .val (.int p1), .val (.int p2), .val (.ref b1), .val (.int (v38 + ((p2 &&& (3 : Int32)) - (1 : Int32)))), .val (.int (1 : Int32)), .val (.int (1 : Int32))]) rfl k) ?_
  show own_Go p e below _ (T42.setTop (mkF m 289 #[.val (.int p0), .val (.int p1), .val (.int p2), .val (.ref b1), .val (.int (v38 + ((p2 &&& (3 : Int32)) - (1 : Int32)))), .val (.int (1 : Int32)), .val (.int (1 : Int32))] []))
  refine own_st (fun _ k => XS.iload X42.here hx rfl (hb hby at_289) rfl k) ?_
  show own_Go p e below _ (T42.setTop (mkF m 291 #[.val (.int p0), .val (.int p1), .val (.int p2), .val (.ref b1), .val (.int (v38 + ((p2 &&& (3 : Int32)) - (1 : Int32)))), .val (.int (1 : Int32)), .val (.int (1 : Int32))] [(.int (1 : Int32))]))
  refine own_st (fun _ k => XS.ifNo X42.here hx rfl (hb hby at_291) rfl ((own_i0 _ _).trans (own_no ((by decide) : ¬ ((1 : Int32) = (0 : Int32))))) k) ?_
  show own_Go p e below _ (T42.setTop (mkF m 294 #[.val (.int p0), .val (.int p1), .val (.int p2), .val (.ref b1), .val (.int (v38 + ((p2 &&& (3 : Int32)) - (1 : Int32)))), .val (.int (1 : Int32)), .val (.int (1 : Int32))] []))
  refine own_st (fun _ k => XS.iload X42.here hx rfl (hb hby at_294) rfl k) ?_
  show own_Go p e below _ (T42.setTop (mkF m 296 #[.val (.int p0), .val (.int p1), .val (.int p2), .val (.ref b1), .val (.int (v38 + ((p2 &&& (3 : Int32)) - (1 : Int32)))), .val (.int (1 : Int32)), .val (.int (1 : Int32))] [(.int (1 : Int32))]))
  refine own_st (fun _ k => XS.ifNo X42.here hx rfl (hb hby at_296) rfl ((own_i0 _ _).trans (own_no ((by decide) : ¬ ((1 : Int32) = (0 : Int32))))) k) ?_
  show own_Go p e below _ (T42.setTop (mkF m 299 #[.val (.int p0), .val (.int p1), .val (.int p2), .val (.ref b1), .val (.int (v38 + ((p2 &&& (3 : Int32)) - (1 : Int32)))), .val (.int (1 : Int32)), .val (.int (1 : Int32))] []))
  refine own_st (fun _ k => XS.iconst X42.here hx rfl (hb hby at_299) k) ?_
  show own_Go p e below _ (T42.setTop (mkF m 300 #[.val (.int p0), .val (.int p1), .val (.int p2), .val (.ref b1), .val (.int (v38 + ((p2 &&& (3 : Int32)) - (1 : Int32)))), .val (.int (1 : Int32)), .val (.int (1 : Int32))] [(.int (1 : Int32))]))
  refine own_st (fun _ k => XS.goto X42.here hx rfl (pc0 := 300) (pc' := 304) rfl (hb hby at_300) (by decide) (by decide) k) ?_
  show own_Go p e below _ (T42.setTop (mkF m 304 #[.val (.int p0), .val (.int p1), .val (.int p2), .val (.ref b1), .val (.int (v38 + ((p2 &&& (3 : Int32)) - (1 : Int32)))), .val (.int (1 : Int32)), .val (.int (1 : Int32))] [(.int (1 : Int32))]))
  exact own_retZ X42 hx hlk hret rfl (hb hby at_304) ⟨rfl, N0⟩ (by decide) (by decide)
set_option maxRecDepth 65536 in
set_option maxHeartbeats 40000000 in
theorem comes_1 {Post : Tables → Env → Array Value → State → Outcome → State → Prop} (hpost : ∀ tb e args s v u, (limb_1_1.after args s (.returned v) u = true ∧ limb_1_2.after args s (.returned v) u = true ∧ True) → FrameEnd s (.returned v) u (Jvm.fieldLocs frame_1_writes args s ++ Jvm.arrayLocs frame_1_arrays args s ++ Jvm.staticLocs frame_1_statics s) 16 192 → Post tb e args s (.returned v) u) :
    ArmFor flags0 classFile x code maxLocals ret World_1 tables_1 room_1 Calls_1 rest_1 Pre_1 Post := by
  intro l hfl _ _ p e ha hc hk s m args below hf hA hF happ hP
  obtain ⟨hcalls, hrest, hpre⟩ := hP
  obtain ⟨-, -, -, hnamed, -, -, -, hat⟩ := (Spec.applies_iff hf).mp happ
  obtain ⟨hg, hn⟩ := and_e (Cond.before_iff.mp (show (Jvm.Cond.and given_1 narrow_1).before args s = true from hpre))
  obtain ⟨g1, g2⟩ := and_e hg
  obtain ⟨g3, g4⟩ := and_e g2
  obtain ⟨g5, g6⟩ := and_e g4
  obtain ⟨w0, w1, w2, rfl⟩ : ∃ w0 w1 w2 : Value, args = #[w0, w1, w2] := by
    have hs : args.size = 3 := by simpa [Cond.value, given_1] using g1
    obtain ⟨L⟩ := args
    match L, hs with
    | [w0, w1, w2], _ => exact ⟨w0, w1, w2, rfl⟩
  have hw := fun d (hd : d ∈ tables_1) => atoms_spec (ws := Jvm.Cond.code x code maxLocals ret :: tables_1) hat d (List.mem_cons_of_mem _ hd)
  obtain ⟨i0, ei0⟩ := is_v g3
  obtain rfl : w0 = (.int i0) := Option.some.inj ei0
  obtain ⟨i1, ei1⟩ := is_v g5
  obtain rfl : w1 = (.int i1) := Option.some.inj ei1
  obtain ⟨i2, ei2⟩ := is_v g6
  obtain rfl : w2 = (.int i2) := Option.some.inj ei2
  obtain ⟨n, o, h1, h2, h3, _, L, rfl, ⟨rfl, N⟩, hq⟩ := rm0 l s _ hw i0 i1 i2 s.heap s.heap.size (Nat.le_refl _) p e ha hc hk s m _ below hf ((Spec.applies_iff_loose hf).mp happ).1 ⟨rfl, State.Warmed39.refl s, rfl⟩ trivial
  refine ⟨n, _, h1, h2, h3, hpost _ _ _ _ _ _ ⟨Cond.after_iff.mpr rfl, Cond.after_iff.mpr (eq_i res_at (Term.int_eval (1)) rfl), trivial⟩ ⟨hq.1, hq.2.1, (hq.2.2.sift fun y hy => Or.inr (N y hy)).mono (by decide) (by decide)⟩⟩
theorem main_1_1 : Claimed_1_1 := comes_1 fun _ _ _ _ _ _ h hF => ⟨h.1, hF⟩
theorem main_1_2 : Claimed_1_2 := comes_1 fun _ _ _ _ _ _ h hF => ⟨h.2.1, hF⟩
end Jvm.Pilot.@@N@@
namespace Jvm.Pilot.@@N@@
open Jvm Jvm.ClassFile Sem Op Lib Jvm.Free Jvm.Stand Jvm.Pilot.@@N@@.Jvm.D
/-! MADE BY PROGRAM (witnessworld.py) out of the Statement's table words and the real class files: 9 classes; the members and pool entries that the words name. The judged class is class 1, her method 3. -/
namespace start1
open Jvm.ClassFile
def u (s : String) : CpInfo := .utf8 (stringToUtf16 s)
/-- a pool by its gaps: so many unusable entries, then the entry; so many at the end -/
def gap : Nat → List CpInfo → List CpInfo
  | 0, r => r
  | n + 1, r => .unusable :: gap n r
def poolList (es : List (Nat × CpInfo)) (last : Nat) : List CpInfo := es.foldr (fun e r => gap e.1 (e.2 :: r)) (gap last [])
def pool (es : List (Nat × CpInfo)) (last : Nat) : Array CpInfo := ⟨poolList es last⟩
def fileOf (pool : Array CpInfo) (this : Nat) (attrs : Array Attribute := #[]) (ms : Array MethodInfo := #[]) (fl : Nat := 33) (sup : Nat := 0) (ifs : Array Nat := #[]) (fds : Array FieldInfo := #[]) : ClassFile where
  minorVersion := 0
  majorVersion := 65
  constantPool := pool
  accessFlags := fl
  thisClass := this
  superClass := sup
  interfaces := ifs
  fields := fds
  methods := ms
  attributes := attrs
def plain (name : String) (sup : Option ClassId) : Class where
  name := name
  kind := .ordinary
  loader := none
  accessFlags := 33
  super := sup
  interfaces := #[]
  cf := none
  fields := #[]
  methods := #[]
  instanceTypes := #[]
  staticTypes := #[]
  resolved := #[]
  callSites := []
  init := .initialized
  statics := none
  mirror := none

def pool0 : Array CpInfo := pool [(5, u "<init>"), (0, u "()V"), (1, .class_ 10), (1, u "java/lang/Object")] 113

def k0m0 : Method := { name := "<init>", desc := "()V", sig := { parameters := [], returnType := none }, accessFlags := 1, code := none }
/-- java/lang/Object -/
def k0 : Class := { plain "java/lang/Object" none with
  accessFlags := 33
  interfaces := #[]
  cf := some (fileOf pool0 8 #[] #[{ accessFlags := 1, nameIndex := 5, descriptorIndex := 6, attributes := #[] }] 33 0 #[] #[])
  fields := #[]
  methods := #[k0m0]
  instanceTypes := #[]
  staticTypes := #[]
  resolved := Array.replicate 124 none
  statics := none }

def pool1 : Array CpInfo := pool [(2, .class_ 4), (1, u "java/lang/Object"), (0, u "<init>"), (0, u "()V"), (0, .methodref 8 9), (0, .class_ 10), (0, .nameAndType 11 12), (0, u "com/example/hornbeam/hornbeam/rdf/NameCharactersIsPnCharsPinLaw"), (0, u "in"), (0, u "(III)Z"), (0, .integer 65536), (0, .integer 55295), (0, .integer 63744), (0, .integer 64975), (0, .integer 65008), (0, .integer 65533), (0, .integer 983039), (0, .integer 2147483647), (0, .methodref 22 23), (0, .class_ 24), (0, .nameAndType 25 26), (0, u "com/example/hornbeam/hornbeam/rdf/NameCharacters"), (0, u "isPnChars"), (0, u "(I)Z"), (0, .methodref 8 28), (0, .nameAndType 29 26), (0, u "ref"), (3, u "law")] 4

def k1m0 : Method := { name := "<init>", desc := "()V", sig := { parameters := [], returnType := none }, accessFlags := 2, code := none }
def k1c1 : Code := { maxStack := 2, maxLocals := 3, code := method_2_code, exceptionTable := #[], attributes := #[] }
def k1m1 : Method := { name := "in", desc := "(III)Z", sig := { parameters := [.int, .int, .int], returnType := some .boolean }, accessFlags := 10, code := some k1c1 }
def k1c2 : Code := { maxStack := 3, maxLocals := 1, code := method_3_code, exceptionTable := #[], attributes := #[] }
def k1m2 : Method := { name := "ref", desc := "(I)Z", sig := { parameters := [.int], returnType := some .boolean }, accessFlags := 10, code := some k1c2 }
def k1c3 : Code := { maxStack := 4, maxLocals := 7, code := code, exceptionTable := #[], attributes := #[] }
def k1m3 : Method := { name := "law", desc := "(III)Z", sig := { parameters := [.int, .int, .int], returnType := some .boolean }, accessFlags := 9, code := some k1c3 }
/-- com/example/hornbeam/hornbeam/rdf/NameCharactersIsPnCharsPinLaw -/
def k1 : Class := { plain "com/example/hornbeam/hornbeam/rdf/NameCharactersIsPnCharsPinLaw" (some 0) with
  accessFlags := 49
  interfaces := #[]
  cf := some (fileOf pool1 8 #[] #[{ accessFlags := 2, nameIndex := 5, descriptorIndex := 6, attributes := #[] }, { accessFlags := 10, nameIndex := 11, descriptorIndex := 12, attributes := #[] }, { accessFlags := 10, nameIndex := 29, descriptorIndex := 26, attributes := #[] }, { accessFlags := 9, nameIndex := 33, descriptorIndex := 12, attributes := #[] }] 49 2 #[] #[])
  fields := #[]
  methods := #[k1m0, k1m1, k1m2, k1m3]
  instanceTypes := #[]
  staticTypes := #[]
  resolved := Array.replicate 38 none
  statics := none }

def pool2 : Array CpInfo := pool [(2, .class_ 4), (1, u "java/lang/Object"), (0, u "<init>"), (0, u "()V"), (0, .integer 55295), (0, .integer 63744), (0, .integer 64975), (0, .integer 65008), (0, .integer 65533), (0, .integer 65536), (0, .integer 983039), (0, .methodref 15 16), (0, .class_ 17), (0, .nameAndType 18 19), (0, u "com/example/hornbeam/hornbeam/rdf/NameCharacters"), (0, u "isPnCharsBase"), (0, u "(I)Z"), (3, u "isPnChars")] 2

def k2m0 : Method := { name := "<init>", desc := "()V", sig := { parameters := [], returnType := none }, accessFlags := 2, code := none }
def k2c1 : Code := { maxStack := 2, maxLocals := 1, code := prog_63_method_2_code, exceptionTable := #[], attributes := #[] }
def k2m1 : Method := { name := "isPnCharsBase", desc := "(I)Z", sig := { parameters := [.int], returnType := some .boolean }, accessFlags := 8, code := some k2c1 }
def k2c2 : Code := { maxStack := 2, maxLocals := 1, code := prog_63_method_3_code, exceptionTable := #[], attributes := #[] }
def k2m2 : Method := { name := "isPnChars", desc := "(I)Z", sig := { parameters := [.int], returnType := some .boolean }, accessFlags := 8, code := some k2c2 }
/-- com/example/hornbeam/hornbeam/rdf/NameCharacters -/
def k2 : Class := { plain "com/example/hornbeam/hornbeam/rdf/NameCharacters" (some 0) with
  accessFlags := 48
  interfaces := #[]
  cf := some (fileOf pool2 15 #[] #[{ accessFlags := 2, nameIndex := 5, descriptorIndex := 6, attributes := #[] }, { accessFlags := 8, nameIndex := 18, descriptorIndex := 19, attributes := #[] }, { accessFlags := 8, nameIndex := 23, descriptorIndex := 19, attributes := #[] }] 48 2 #[] #[])
  fields := #[]
  methods := #[k2m0, k2m1, k2m2]
  instanceTypes := #[]
  staticTypes := #[]
  resolved := Array.replicate 26 none
  statics := none }

def pool3 : Array CpInfo := pool [(1, u "java/lang/Cloneable"), (0, .class_ 1), (0, u "java/lang/Object"), (0, .class_ 3)] 3

/-- java/lang/Cloneable -/
def k3 : Class := { plain "java/lang/Cloneable" (some 0) with
  accessFlags := 1537
  interfaces := #[]
  cf := some (fileOf pool3 2 #[] #[] 1537 4 #[] #[])
  fields := #[]
  methods := #[]
  instanceTypes := #[]
  staticTypes := #[]
  resolved := Array.replicate 8 none
  statics := none }

def pool4 : Array CpInfo := pool [(1, u "java/io/Serializable"), (0, .class_ 1), (0, u "java/lang/Object"), (0, .class_ 3)] 3

/-- java/io/Serializable -/
def k4 : Class := { plain "java/io/Serializable" (some 0) with
  accessFlags := 1537
  interfaces := #[]
  cf := some (fileOf pool4 2 #[] #[] 1537 4 #[] #[])
  fields := #[]
  methods := #[]
  instanceTypes := #[]
  staticTypes := #[]
  resolved := Array.replicate 8 none
  statics := none }

/-- the primitive byte -/
def k5 : Class := { plain "byte" none with kind := .primitive 'B', accessFlags := 0x411 }
/-- [B -/
def k6 : Class := { plain "[B" (some 0) with kind := .array 5 .byte, interfaces := #[3, 4], accessFlags := 1041 }

/-- the primitive int -/
def k7 : Class := { plain "int" none with kind := .primitive 'I', accessFlags := 0x411 }
/-- [I -/
def k8 : Class := { plain "[I" (some 0) with kind := .array 7 .int, interfaces := #[3, 4], accessFlags := 1041 }

def heap : Heap := #[]
def classes : Array Class := #[k0, k1, k2, k3, k4, k5, k6, k7, k8]
def interned : List (Array UInt16 × Addr) := []
def slotsUsed : Nat := 0
def theMethod : MethodId := ⟨1, 3⟩
def args0 : Array Value := #[.int 5, .int 3, .int 8]
def aboutOver (below : List Frame) : State where
  vm := { classes := classes, interned := interned.toArray }
  heap := heap
  slotsUsed := slotsUsed
  threads := #[{ frames := .invoking theMethod args0 :: below }]
def below0 : List Frame := [.native { method := ⟨0, 0⟩, args := #[] }]
def about1 : State := aboutOver below0
def p0 : Program := .bare "" "" ""
def e0 : Env := launch0.env 0 0 0
theorem w_frames : about1.frames = Frame.invoking theMethod args0 :: below0 := rfl
set_option maxRecDepth 65536 in
theorem w_args : argsFit about1.vm theMethod args0 = true := by decide +kernel
set_option maxRecDepth 65536 in
theorem w_heap : heapFits about1 = true := by decide +kernel
set_option maxRecDepth 65536 in
theorem w_runnable : about1.curStatus? = some .runnable := by decide +kernel
set_option maxRecDepth 65536 in
theorem w_alone : about1.alone = true := by decide +kernel
set_option maxRecDepth 65536 in
theorem w_named : about1.methodNamed? x = some theMethod := by decide +kernel
set_option maxRecDepth 65536 in
theorem w_hears : about1.hears theMethod below0 = true := by decide +kernel
set_option maxRecDepth 65536 in
theorem w_ripe : about1.ripe theMethod args0 below0 = true := by decide +kernel
theorem w_running : about1.status = .running := rfl
set_option maxRecDepth 65536 in
theorem w_room : about1.hasRoom e0.platform room_1 = true :=
  launch0.hasRoom_least _ room_1 (by decide +kernel) (by decide +kernel) (by decide +kernel) (by decide +kernel) (by decide +kernel) (by decide +kernel)
theorem allAtoms_all (ts : List Jvm.Cond) (a : Array Jvm.Value) (st : Jvm.State) : (allAtoms ts).before a st = ts.all (fun c => c.before a st) := by
  induction ts with
  | nil => rfl
  | cons c t ih =>
    show (Jvm.Cond.and c (allAtoms t)).before a st = _
    rw [Jvm.Cond.before_and, ih, List.all_cons]
def words1 : List Jvm.Cond := Jvm.Cond.code x code maxLocals ret :: tables_1
/-- a 'code' word, met by the world's own term for the bytes: nothing is compared byte by byte -/
theorem code_word {y : MethodName} {bytes : ByteArray} {mx : Nat} {rt : Option FieldType} {a : Array Value} {s : State} {m : MethodId} {meth : Method} {c : Code} (h1 : s.methodNamed? y = some m) (h2 : s.vm.method? m = some meth) (h3 : meth.code = some c) (h4 : c.code = bytes)
    (h5 : (c.maxLocals == mx && c.exceptionTable.isEmpty && decide (c.maxStack ≤ mostOperands) && decide (meth.sig.returnType = rt) && !meth.locks && decide (parseMethodDescriptor y.desc = some meth.sig)) = true) : (Jvm.Cond.code y bytes mx rt).before a s = true := by
  simp only [Bool.and_eq_true, beq_iff_eq, Bool.not_eq_true', decide_eq_true_eq] at h5
  obtain ⟨⟨⟨⟨⟨g1, g2⟩, g3⟩, g4⟩, g5⟩, g6⟩ := h5
  simp [Cond.before, Cond.holds, Cond.value, h1, h2, h3, h4, g1, g2, g3, g4, g5, g6]
def isCode : Jvm.Cond → Bool
  | .code _ _ _ _ => true
  | _ => false
theorem all_split {L : List Jvm.Cond} {P : Jvm.Cond → Bool} (h1 : L.all (fun c => isCode c || P c) = true) (h2 : ∀ c ∈ L.filter isCode, P c = true) : L.all P = true := by
  refine List.all_eq_true.mpr fun c hc => ?_
  have h := List.all_eq_true.mp h1 c hc
  rcases Bool.eq_false_or_eq_true (isCode c) with hi | hi
  · exact h2 c (List.mem_filter.mpr ⟨hc, hi⟩)
  · simpa [hi] using h
set_option maxRecDepth 65536 in
theorem w_c0 : (Jvm.Cond.code x code maxLocals ret).before args0 about1 = true := code_word (m := ⟨1, 3⟩) (meth := k1m3) (c := k1c3) (by decide +kernel) rfl rfl rfl (by decide +kernel)
set_option maxRecDepth 65536 in
theorem w_c1 : (Jvm.Cond.code ({ cls := "com/example/hornbeam/hornbeam/rdf/NameCharacters", name := "isPnChars", desc := "(I)Z" } : Jvm.MethodName) prog_63_method_3_code (1 : Nat) (Option.some Jvm.ClassFile.FieldType.boolean)).before args0 about1 = true := code_word (m := ⟨2, 2⟩) (meth := k2m2) (c := k2c2) (by decide +kernel) rfl rfl rfl (by decide +kernel)
set_option maxRecDepth 65536 in
theorem w_c2 : (Jvm.Cond.code ({ cls := "com/example/hornbeam/hornbeam/rdf/NameCharacters", name := "isPnCharsBase", desc := "(I)Z" } : Jvm.MethodName) prog_63_method_2_code (1 : Nat) (Option.some Jvm.ClassFile.FieldType.boolean)).before args0 about1 = true := code_word (m := ⟨2, 1⟩) (meth := k2m1) (c := k2c1) (by decide +kernel) rfl rfl rfl (by decide +kernel)
set_option maxRecDepth 65536 in
theorem w_c3 : (Jvm.Cond.code ({ cls := "com/example/hornbeam/hornbeam/rdf/NameCharactersIsPnCharsPinLaw", name := "ref", desc := "(I)Z" } : Jvm.MethodName) method_3_code (1 : Nat) (Option.some Jvm.ClassFile.FieldType.boolean)).before args0 about1 = true := code_word (m := ⟨1, 2⟩) (meth := k1m2) (c := k1c2) (by decide +kernel) rfl rfl rfl (by decide +kernel)
set_option maxRecDepth 65536 in
theorem w_c4 : (Jvm.Cond.code ({ cls := "com/example/hornbeam/hornbeam/rdf/NameCharactersIsPnCharsPinLaw", name := "in", desc := "(III)Z" } : Jvm.MethodName) method_2_code (3 : Nat) (Option.some Jvm.ClassFile.FieldType.boolean)).before args0 about1 = true := code_word (m := ⟨1, 1⟩) (meth := k1m1) (c := k1c1) (by decide +kernel) rfl rfl rfl (by decide +kernel)
def codes1 : List Jvm.Cond := [Jvm.Cond.code x code maxLocals ret, Jvm.Cond.code ({ cls := "com/example/hornbeam/hornbeam/rdf/NameCharacters", name := "isPnChars", desc := "(I)Z" } : Jvm.MethodName) prog_63_method_3_code (1 : Nat) (Option.some Jvm.ClassFile.FieldType.boolean), Jvm.Cond.code ({ cls := "com/example/hornbeam/hornbeam/rdf/NameCharacters", name := "isPnCharsBase", desc := "(I)Z" } : Jvm.MethodName) prog_63_method_2_code (1 : Nat) (Option.some Jvm.ClassFile.FieldType.boolean), Jvm.Cond.code ({ cls := "com/example/hornbeam/hornbeam/rdf/NameCharactersIsPnCharsPinLaw", name := "ref", desc := "(I)Z" } : Jvm.MethodName) method_3_code (1 : Nat) (Option.some Jvm.ClassFile.FieldType.boolean), Jvm.Cond.code ({ cls := "com/example/hornbeam/hornbeam/rdf/NameCharactersIsPnCharsPinLaw", name := "in", desc := "(III)Z" } : Jvm.MethodName) method_2_code (3 : Nat) (Option.some Jvm.ClassFile.FieldType.boolean)]
set_option maxRecDepth 65536 in
theorem codes_eq : words1.filter isCode = codes1 := rfl
theorem w_codes : ∀ c ∈ words1.filter isCode, c.before args0 about1 = true := by
  rw [codes_eq]
  intro c hc
  simp only [codes1, List.mem_cons, List.not_mem_nil, or_false] at hc
  rcases hc with rfl | rfl | rfl | rfl | rfl
  · exact w_c0
  · exact w_c1
  · exact w_c2
  · exact w_c3
  · exact w_c4
set_option maxRecDepth 65536 in
theorem w_t1 : (words1.take 24).all (fun c => isCode c || c.before args0 about1) = true := by decide +kernel
set_option maxRecDepth 65536 in
theorem w_t2 : (words1.drop 24).all (fun c => isCode c || c.before args0 about1) = true := by decide +kernel
theorem w_tables : (allAtoms (Jvm.Cond.code x code maxLocals ret :: tables_1)).before args0 about1 = true := by
  rw [allAtoms_all]
  show words1.all (fun c => c.before args0 about1) = true
  refine all_split ?_ w_codes
  rw [← List.take_append_drop 24 words1, List.all_append, w_t1, w_t2]
  rfl
set_option maxRecDepth 65536 in
theorem w_case : (Jvm.Cond.and given_1 narrow_1).before args0 about1 = true := by decide +kernel
theorem w_applies : (headSpec (Jvm.Cond.code x code maxLocals ret :: tables_1) room_1).applies x e0.platform about1 = true :=
  (Spec.applies_iff w_frames).mpr ⟨w_running, w_runnable, w_alone, w_named, w_hears, w_ripe, w_room, w_tables⟩
theorem atStart : AtStart classFile x code maxLocals ret World_1 tables_1 room_1 Calls_1 rest_1 Pre_1 launch0 p0 e0 about1 theMethod args0 below0 :=
  ⟨lists_1, trivial, launch0.admits_env _ _ _, launch0.least_env, fairChoices_fair.cas, fairChoices_fair.clock, w_frames, w_args, w_heap, w_applies, trivial, trivial, w_case⟩
end start1
theorem witness_1 : WitnessClaimed_1 := ⟨start1.p0, start1.e0, start1.about1, start1.theMethod, start1.args0, start1.below0, start1.atStart⟩
end Jvm.Pilot.@@N@@
