import JvmDerived
import JvmDerived.Pilot.@@N@@Statement
import JvmDerived.Pilot.@@N@@Code
set_option linter.unusedVariables false
set_option linter.unusedSimpArgs false
namespace Jvm.Pilot.@@N@@
open Jvm Jvm.ClassFile Sem Op Lib Jvm.Free Jvm.Stand Jvm.LawKit Jvm.RoadKit Bundle Jvm.Pilot.@@N@@.Jvm.D
section OwnKit
variable {p : Program} {l : Launch} {e : Env} {R : Room} {s : State} {m : MethodId} {args : Array Value} {below : List Frame} {meth : Method} {c : Code} {T : State} {locs : List Loc} {cells slots : Nat} {Z : State} {a0 : Array Value} {h : Heap}
/-- from the state U on the run comes to an end of which Q holds -/
def own_Go (p : Program) (e : Env) (below : List Frame) (Q : Outcome → State → Prop) (U : State) : Prop :=
  ∃ u o, Steps p.tables e below U u ∧ u.status = .running ∧ Ended u below o ∧ Q o u
theorem own_st {Q : Outcome → State → Prop} {U V : State} (k : ∀ t, Steps p.tables e below V t → Steps p.tables e below U t) (q : own_Go p e below Q V) : own_Go p e below Q U := by
  obtain ⟨u, o, h1, h2⟩ := q
  exact ⟨u, o, k _ h1, h2⟩
theorem own_tr {Q : Outcome → State → Prop} {U V : State} (k : Steps p.tables e below U V) (q : own_Go p e below Q V) : own_Go p e below Q U := by
  obtain ⟨u, o, h1, h2⟩ := q
  exact ⟨u, o, k.trans h1, h2⟩
/-- what a body leaves, said of its end -/
abbrev own_Post (s : State) (Qc : Option Value → Heap → List Loc → Prop) (k n : Nat) : Outcome → State → Prop := fun o u => ∃ v L, o = .returned v ∧ Qc v u.heap L ∧ FrameEnd s o u L k n
theorem own_body {y : MethodName} {bytes : ByteArray} {maxL : Nat} {ret : Option FieldType} {ws : List Jvm.Cond} {rm : Room} {as' : Array Value} {h0 : Heap} {Qc : Option Value → Heap → List Loc → Prop} {k n : Nat} (hpl : plainFor y = true)
    (body : ∀ (p : Program) (e : Env) (s : State) (m : MethodId) (below : List Frame) (meth : Method) (c : Code) (s₁ : State), Stand p l e rm s m as' below meth c s₁ [] 0 0 → p.tables.exec = Jvm.exec → Z.Warmed39 s.vm → c.code = bytes → c.maxLocals = maxL → s.vm.findClass y.cls = some m.cls →
      meth.sig.returnType = ret → meth.locks = false → meth.name = y.name → s₁.heap = h0 → own_Go p e below (own_Post s Qc k n) (s₁.setTop (entryFrame m as' maxL))) :
    MetFree l y (head1 (Jvm.Cond.code y bytes maxL ret :: ws) rm) (fun a U => a = as' ∧ Z.Warmed39 U.vm ∧ U.heap = h0) (fun _ _ _ _ _ => True) (fun _ U o U' => own_Post U Qc k n o U') := by
  refine MetFree.of_bodySF hpl hisR ?_
  intro p e s m args below meth c s₁ Bd hml0 hP hK
  obtain ⟨rfl, hZ, hh⟩ := hP
  exact body p e s m below meth c s₁ (Stand.of_body Bd) Bd.exec hZ Bd.bytes hml0 (findClass_of_methodNamed Bd.named) Bd.returns Bd.notSynchronized (name_of_methodNamed Bd.named Bd.method).1 (by rw [← hh, Bd.state]; rfl)
theorem own_end {Qc : Option Value → Heap → List Loc → Prop} {k n : Nat} {v : Option Value} (X : Stand p l e R s m args below meth c T locs cells slots) (hlk : meth.locks = false) (hv : meth.sig.returnType = none → v = none) {g : JFrame}
    (hst : ∀ fs, (∀ (f : JFrame) (acts : List Action), f.method = m → f.locked = none → f.entered = [] → (doReturn e (T.setTop f) acts v).1 = T.setFrames fs) → Steps p.tables e below (T.setTop g) (T.setFrames fs))
    (hQ : Qc v T.heap locs) (hk : cells ≤ k) (hn : slots ≤ n) : own_Go p e below (own_Post s Qc k n) (T.setTop g) := by
  obtain ⟨fs, hr, hrun, hended, hW, hsame⟩ := X.leave (v := v) hv hlk
  exact ⟨_, _, hst fs hr, hrun, hended, _, _, rfl, hQ, ⟨_, rfl⟩, hW, hsame.mono hk hn⟩
theorem own_retI {Qc : Option Value → Heap → List Loc → Prop} {k n : Nat} (X : Stand p l e R s m args below meth c T locs cells slots) (hx : p.tables.exec = Jvm.exec) (hlk : meth.locks = false) (hret : meth.sig.returnType = some .int) {pc : Nat} {Ls : Array Slot} {z : Int32} {rest : List Value}
    (hd : decode c.code pc = .ok (.ireturn, 1)) (hQ : Qc (some (.int z)) T.heap locs) (hk : cells ≤ k) (hn : slots ≤ n) : own_Go p e below (own_Post s Qc k n) (T.setTop (mkF m pc Ls (.int z :: rest))) :=
  own_end X hlk (fun q => by rw [hret] at q; cases q) (fun fs hr => retOut X hx hret (w := .int z) (t := .int) rfl (Or.inl ⟨rfl, Or.inl rfl, z, rfl⟩) hd hr) hQ hk hn
theorem own_retZ {Qc : Option Value → Heap → List Loc → Prop} {k n : Nat} (X : Stand p l e R s m args below meth c T locs cells slots) (hx : p.tables.exec = Jvm.exec) (hlk : meth.locks = false) (hret : meth.sig.returnType = some .boolean) {pc : Nat} {Ls : Array Slot} {z : Int32} {rest : List Value}
    (hz : narrow .boolean (.int z) = .int z) (hd : decode c.code pc = .ok (.ireturn, 1)) (hQ : Qc (some (.int z)) T.heap locs) (hk : cells ≤ k) (hn : slots ≤ n) : own_Go p e below (own_Post s Qc k n) (T.setTop (mkF m pc Ls (.int z :: rest))) :=
  own_end X hlk (fun q => by rw [hret] at q; cases q) (fun fs hr => retOut X hx hret (w := .int z) (t := .boolean) hz (Or.inl ⟨rfl, Or.inr (Or.inl rfl), z, rfl⟩) hd hr) hQ hk hn
theorem own_retJ {Qc : Option Value → Heap → List Loc → Prop} {k n : Nat} (X : Stand p l e R s m args below meth c T locs cells slots) (hx : p.tables.exec = Jvm.exec) (hlk : meth.locks = false) (hret : meth.sig.returnType = some .long) {pc : Nat} {Ls : Array Slot} {z : Int64} {rest : List Value}
    (hd : decode c.code pc = .ok (.lreturn, 1)) (hQ : Qc (some (.long z)) T.heap locs) (hk : cells ≤ k) (hn : slots ≤ n) : own_Go p e below (own_Post s Qc k n) (T.setTop (mkF m pc Ls (.long z :: rest))) :=
  own_end X hlk (fun q => by rw [hret] at q; cases q) (fun fs hr => retOut X hx hret (w := .long z) (t := .long) rfl (Or.inr (Or.inl ⟨rfl, rfl, z, rfl⟩)) hd hr) hQ hk hn
theorem own_retA {Qc : Option Value → Heap → List Loc → Prop} {k n : Nat} (X : Stand p l e R s m args below meth c T locs cells slots) (hx : p.tables.exec = Jvm.exec) (hlk : meth.locks = false) {t : FieldType} (hret : meth.sig.returnType = some t) (ht : t.isReference = true) {pc : Nat} {Ls : Array Slot} {w : Value} (hw : w.isRef = true)
    (hd : decode c.code pc = .ok (.areturn, 1)) (hQ : Qc (some w) T.heap locs) (hk : cells ≤ k) (hn : slots ≤ n) : own_Go p e below (own_Post s Qc k n) (T.setTop (mkF m pc Ls [w])) :=
  own_end X hlk (fun q => by rw [hret] at q; cases q) (fun fs hr => X.areturnOut hx hw hret ht hd hr) hQ hk hn
theorem own_retV {Qc : Option Value → Heap → List Loc → Prop} {k n : Nat} (X : Stand p l e R s m args below meth c T locs cells slots) (hx : p.tables.exec = Jvm.exec) (hlk : meth.locks = false) (hret : meth.sig.returnType = none) {pc : Nat} {Ls : Array Slot}
    (hd : decode c.code pc = .ok (.return_, 1)) (hQ : Qc none T.heap locs) (hk : cells ≤ k) (hn : slots ≤ n) : own_Go p e below (own_Post s Qc k n) (T.setTop (mkF m pc Ls [])) :=
  own_end X hlk (fun _ => rfl) (fun fs hr => X.returnOut hx hret hd hr) hQ hk hn
/-- a callee's contract, as own_body proves it and the three calls below spend it -/
abbrev own_Met (l : Launch) (Z : State) (y : MethodName) (bytes : ByteArray) (maxL : Nat) (ret : Option FieldType) (rm : Room) (as' : Array Value) (h0 : Heap) (Qc : Option Value → Heap → List Loc → Prop) : Prop :=
  MetFree l y (head1 [Jvm.Cond.code y bytes maxL ret] rm) (fun a U => a = as' ∧ Z.Warmed39 U.vm ∧ U.heap = h0) (fun _ _ _ _ _ => True) (fun _ U o U' => own_Post U Qc rm.cells rm.slots o U')
theorem own_callS (X : Stand p l e R s m args below meth c T locs cells slots) (hx : p.tables.exec = Jvm.exec) (hZ : Z.Warmed39 s.vm) {own : String} {index : Nat} {y : MethodName} {bytes : ByteArray} {maxL : Nat} {ret : Option FieldType} {rm : Room} {Qc : Option Value → Heap → List Loc → Prop} {argsL rest : List Value} {ps : List FieldType} {W : Nat} {g : JFrame}
    (hM : own_Met l Z y bytes maxL ret rm argsL.toArray h Qc) (hown : s.vm.findClass own = some m.cls) (w1 : (Jvm.Cond.methodLink own index y).before a0 Z = true) (w2 : (Jvm.Cond.static y).before a0 Z = true) (w3 : (Jvm.Cond.initialized y.cls).before a0 Z = true) (w4 : (Jvm.Cond.code y bytes maxL ret).before a0 Z = true)
    (hy : y.cls ≠ "java/lang/invoke/MethodHandle" ∧ y.cls ≠ "java/lang/invoke/VarHandle") (eT : T.heap = h) (hg : g.method = m) (hsize : g.locals.size = c.maxLocals) (hdesc : parseMethodDescriptor y.desc = some ⟨ps, ret⟩) (hlen : argsL.length = ps.length) (hstack : g.stack = argsL.reverse ++ rest)
    (hW : 2 * g.monitorRoom + (rest.map fun v => v.category).sum ≤ W) (hdg : decode c.code g.pc = .ok (.invokestatic index, 3)) (hf : rm.frames + 1 ≤ R.frames) (hl : W + (maxL + 11) + rm.locals ≤ R.locals) (hc : cells + rm.cells ≤ R.cells) (hs : slots + rm.slots ≤ R.slots) :
    ∃ v T' L, Stand p l e R s m args below meth c T' (locs ++ L) (cells + rm.cells) (slots + rm.slots) ∧ Qc v T'.heap L ∧ ∀ target, Steps p.tables e below (T'.setTop { g with pc := g.pc + 3, stack := v.toList ++ rest }) target → Steps p.tables e below (T.setTop g) target := by
  obtain ⟨v, _, ⟨T1, L1, k1, n1⟩, -, X1, ⟨L, hQ, q1, q2, q3⟩, st⟩ := Jvm.LawKit.callS X hx (y := y) hown (mvT hZ w1) (mvT hZ w2) (mvT hZ w3) (mvT hZ w4) hy (backOf (W := W) hM hZ w4 w3 hf hl) (g := g) hg hsize (lenOf hdesc hlen) hstack hW hdg (fun _ _ => ⟨rfl, eT, hc, hs⟩)
  dsimp only [Pt.U, Pt.locs, Pt.cells, Pt.slots] at X1 q1 q2 q3 st hQ
  subst q1 q2 q3
  exact ⟨v, T1, L, X1, hQ, st⟩
theorem own_callI (X : Stand p l e R s m args below meth c T locs cells slots) (hx : p.tables.exec = Jvm.exec) (hZ : Z.Warmed39 s.vm) {own : String} {index : Nat} {y : MethodName} {bytes : ByteArray} {maxL : Nat} {rm : Room} {Qc : Option Value → Heap → List Loc → Prop} {a : Addr} {argsL rest : List Value} {ps : List FieldType} {W : Nat} {g : JFrame}
    (hM : own_Met l Z y bytes maxL none rm (.ref a :: argsL).toArray h Qc) (hn : y.name = "<init>") (hown : s.vm.findClass own = some m.cls) (w1 : (Jvm.Cond.methodLink own index y).before a0 Z = true) (w2 : (Jvm.Cond.instanceMethod y).before a0 Z = true) (w3 : (Jvm.Cond.initialized y.cls).before a0 Z = true) (w4 : (Jvm.Cond.code y bytes maxL none).before a0 Z = true)
    (hy : y.cls ≠ "java/lang/invoke/MethodHandle" ∧ y.cls ≠ "java/lang/invoke/VarHandle") (eT : T.heap = h) (hg : g.method = m) (hsize : g.locals.size = c.maxLocals) (hdesc : parseMethodDescriptor y.desc = some ⟨ps, none⟩) (hlen : argsL.length = ps.length) (hstack : g.stack = argsL.reverse ++ .ref a :: rest)
    (hW : 2 * g.monitorRoom + (rest.map fun v => v.category).sum ≤ W) (hdg : decode c.code g.pc = .ok (.invokespecial index, 3)) (hf : rm.frames + 1 ≤ R.frames) (hl : W + (maxL + 11) + rm.locals ≤ R.locals) (hc : cells + rm.cells ≤ R.cells) (hs : slots + rm.slots ≤ R.slots) :
    ∃ v T' L, Stand p l e R s m args below meth c T' (locs ++ L) (cells + rm.cells) (slots + rm.slots) ∧ Qc v T'.heap L ∧ ∀ target, Steps p.tables e below (T'.setTop { g with pc := g.pc + 3, stack := v.toList ++ rest }) target → Steps p.tables e below (T.setTop g) target := by
  obtain ⟨v, _, ⟨T1, L1, k1, n1⟩, -, X1, ⟨L, hQ, q1, q2, q3⟩, st⟩ := X.specialBack hx (y := y) hn hown (mvT hZ w1) (mvT hZ w2) (mvT hZ w4) hy (backOf (W := W) hM hZ w4 w3 hf hl) (g := g) hg hsize (Steps.refl _) (a := a) (lenOf hdesc hlen) hstack hW hdg (fun _ _ => ⟨rfl, eT, hc, hs⟩)
  dsimp only [Pt.U, Pt.locs, Pt.cells, Pt.slots] at X1 q1 q2 q3 st hQ
  subst q1 q2 q3
  exact ⟨v, T1, L, X1, hQ, fun _ q => st.trans q⟩
theorem own_callV (X : Stand p l e R s m args below meth c T locs cells slots) (hx : p.tables.exec = Jvm.exec) (hZ : Z.Warmed39 s.vm) {own : String} {index : Nat} {y : MethodName} {bytes : ByteArray} {maxL : Nat} {ret : Option FieldType} {rm : Room} {Qc : Option Value → Heap → List Loc → Prop} {a : Addr} {argsL rest : List Value} {ps : List FieldType} {W : Nat} {g : JFrame}
    (hM : own_Met l Z y bytes maxL ret rm (.ref a :: argsL).toArray h Qc) (E : Exa Z h a y.cls) (hown : s.vm.findClass own = some m.cls) (w1 : (Jvm.Cond.methodLink own index y).before a0 Z = true) (w2 : (Jvm.Cond.declares y).before a0 Z = true) (w3 : (Jvm.Cond.selects y.cls y y).before a0 Z = true) (w4 : (Jvm.Cond.instanceMethod y).before a0 Z = true) (w5 : (Jvm.Cond.initialized y.cls).before a0 Z = true) (w6 : (Jvm.Cond.code y bytes maxL ret).before a0 Z = true)
    (hy : y.cls ≠ "java/lang/invoke/MethodHandle" ∧ y.cls ≠ "java/lang/invoke/VarHandle") (eT : T.heap = h) (hg : g.method = m) (hsize : g.locals.size = c.maxLocals) (hdesc : parseMethodDescriptor y.desc = some ⟨ps, ret⟩) (hlen : argsL.length = ps.length) (hstack : g.stack = argsL.reverse ++ .ref a :: rest)
    (hW : 2 * g.monitorRoom + (rest.map fun v => v.category).sum ≤ W) (hdg : decode c.code g.pc = .ok (.invokevirtual index, 3)) (hf : rm.frames + 1 ≤ R.frames) (hl : W + (maxL + 11) + rm.locals ≤ R.locals) (hc : cells + rm.cells ≤ R.cells) (hs : slots + rm.slots ≤ R.slots) :
    ∃ v T' L, Stand p l e R s m args below meth c T' (locs ++ L) (cells + rm.cells) (slots + rm.slots) ∧ Qc v T'.heap L ∧ ∀ target, Steps p.tables e below (T'.setTop { g with pc := g.pc + 3, stack := v.toList ++ rest }) target → Steps p.tables e below (T.setTop g) target := by
  obtain ⟨cq, kq, qa, qb, qc⟩ := isOf hZ eT E
  obtain ⟨v, _, ⟨T1, L1, k1, n1⟩, -, X1, ⟨L, hQ, q1, q2, q3⟩, st⟩ := X.virtualBack hx (y := y) (z := y) hown (mvT hZ w1) (mvT hZ w2) (notFace_of_selects (args := #[]) (mvT hZ w3)) (mvT hZ w3) (mvT hZ w4) hy (backOf (W := W) hM hZ w6 w5 hf hl) qa qc (g := g) hg hsize (Steps.refl _) (lenOf hdesc hlen) hstack hW hdg (fun _ _ => ⟨rfl, eT, hc, hs⟩)
  dsimp only [Pt.U, Pt.locs, Pt.cells, Pt.slots] at X1 q1 q2 q3 st hQ
  subst q1 q2 q3
  exact ⟨v, T1, L, X1, hQ, fun _ q => st.trans q⟩
/-- what a body that writes nothing leaves -/
abbrev own_P (v : Option Value) (h : Heap) : Option Value → Heap → List Loc → Prop := fun w h' L => w = v ∧ L = [] ∧ h' = h
theorem own_flat (X : Stand p l e R s m args below meth c T (locs ++ []) (cells + 0) (slots + 0)) : Stand p l e R s m args below meth c T locs cells slots := by
  rw [List.append_nil] at X
  exact X
def own_c32 : ClassFile.Cond → Int32 → Int32 → Bool
  | .lt, x, y => decide (x < y)
  | .ge, x, y => !decide (x < y)
  | .gt, x, y => decide (y < x)
  | .le, x, y => !decide (y < x)
  | .eq, x, y => decide (x = y)
  | .ne, x, y => !decide (x = y)
def own_c64 : ClassFile.Cond → Int64 → Int64 → Bool
  | .lt, x, y => decide (x < y)
  | .ge, x, y => !decide (x < y)
  | .gt, x, y => decide (y < x)
  | .le, x, y => !decide (y < x)
  | .eq, x, y => decide (x = y)
  | .ne, x, y => !decide (x = y)
theorem own_yes {P : Prop} [Decidable P] (q : P) : decide P = true := decide_eq_true q
theorem own_no {P : Prop} [Decidable P] (q : ¬ P) : decide P = false := decide_eq_false q
theorem own_nyes {P : Prop} [Decidable P] (q : P) : (!decide P) = false := by rw [decide_eq_true q]; rfl
theorem own_nno {P : Prop} [Decidable P] (q : ¬ P) : (!decide P) = true := by rw [decide_eq_false q]; rfl
theorem own_i2 (cd : ClassFile.Cond) (x y : Int32) : if_icmp.holds cd x y = own_c32 cd x y := by
  cases cd
  case lt => by_cases q : x < y; · exact (tlt q).1.trans (own_yes q).symm
             · exact (flt q).1.trans (own_no q).symm
  case ge => by_cases q : x < y; · exact (tlt q).2.1.trans (own_nyes q).symm
             · exact (flt q).2.1.trans (own_nno q).symm
  case gt => by_cases q : y < x; · exact (tlt q).2.2.1.trans (own_yes q).symm
             · exact (flt q).2.2.1.trans (own_no q).symm
  case le => by_cases q : y < x; · exact (tlt q).2.2.2.trans (own_nyes q).symm
             · exact (flt q).2.2.2.trans (own_nno q).symm
  case eq => by_cases q : x = y; · exact (teq q).1.trans (own_yes q).symm
             · exact (feq q).1.trans (own_no q).symm
  case ne => by_cases q : x = y; · exact (teq q).2.trans (own_nyes q).symm
             · exact (feq q).2.trans (own_nno q).symm
theorem own_i0 (cd : ClassFile.Cond) (x : Int32) : ifCond.holds cd x = own_c32 cd x 0 := (if0 cd x).trans (own_i2 cd x 0)
theorem own_l0 (cd : ClassFile.Cond) (x y : Int64) : ifCond.holds cd (lcmpW x y) = own_c64 cd x y := by
  rw [own_i0]
  have q1 := lw_lt x y
  have q2 := lw_gt x y
  have q3 := lw_eq x y
  cases cd <;> simp only [own_c32, own_c64, q1, q2, q3]
theorem own_ldI {a : Addr} {k : ClassId} {z j : Int32} {vs : List Value} {dv : Value} (F : Arv Z h a k .int z vs dv) (q : ¬ j < 0 ∧ j < z) : ∃ (cl : Cell) (v : Int32), Arr Z h a cl .int ∧ ¬ (j < 0 ∨ cl.slots.size ≤ j.toNatClampNeg) ∧ cl.slots[j.toNatClampNeg]? = some (.int v) := by
  obtain ⟨cl, A, -, S, M, H, G⟩ := F
  have hin := inb_of S q
  have hlt : j.toNatClampNeg < cl.slots.size := Nat.lt_of_not_le fun y => hin (Or.inr y)
  obtain ⟨v, hv⟩ := fit_I (G _ hlt) (Or.inl rfl)
  exact ⟨cl, v, A, hin, by rw [H _ hlt, hv]⟩
theorem own_len {a : Addr} {k : ClassId} {ty : FieldType} {z : Int32} {vs : List Value} {dv : Value} (F : Arv Z h a k ty z vs dv) : ∃ cl : Cell, Arr Z h a cl ty ∧ cl.slots.size = z.toNatClampNeg ∧ ¬ z < 0 := by
  obtain ⟨cl, A, -, S, M, -, -⟩ := F
  exact ⟨cl, A, S, M⟩
theorem own_at {a : Addr} {k : ClassId} {ty : FieldType} {z j : Int32} {vs : List Value} {dv : Value} (F : Arv Z h a k ty z vs dv) (q : ¬ j < 0 ∧ j < z) {i : Nat} (hj : j.toNatClampNeg = i) {v : Value} (hv : vs.getD i dv = v) : ∃ cl : Cell, Arr Z h a cl ty ∧ ¬ (j < 0 ∨ cl.slots.size ≤ j.toNatClampNeg) ∧ cl.slots[j.toNatClampNeg]? = some v := by
  obtain ⟨cl, A, -, S, M, H, -⟩ := F
  have hin := inb_of S q
  have hlt : j.toNatClampNeg < cl.slots.size := Nat.lt_of_not_le fun y => hin (Or.inr y)
  refine ⟨cl, A, hin, ?_⟩
  rw [H _ hlt, hj, hv]
end OwnKit

theorem pd_0 : parseMethodDescriptor "([J)I" = some ⟨[(.array .long)], some .int⟩ := by decide +kernel
theorem pd_1 : parseMethodDescriptor "([JII)Z" = some ⟨[(.array .long), .int, .int], some .boolean⟩ := by decide +kernel
def own_bs (f : Nat → Int64) : Nat → Nat → Nat
  | 0, b => b
  | k + 1, b => own_bs f k (if f k < f b then k else b)
theorem own_bs_lt {f : Nat → Int64} {k b : Nat} (h : f k < f b) : own_bs f (k + 1) b = own_bs f k k := congrArg (fun z => own_bs f k z) (if_pos h)
theorem own_bs_ge {f : Nat → Int64} {k b : Nat} (h : ¬ f k < f b) : own_bs f (k + 1) b = own_bs f k b := congrArg (fun z => own_bs f k z) (if_neg h)
theorem own_bs_ok (f : Nat → Int64) : ∀ (k b : Nat), k ≤ b → b ≤ 6 → (∀ j, k ≤ j → j ≤ 6 → (j < b → ¬ f j < f b) ∧ (b < j → f b < f j)) → own_bs f k b ≤ 6 ∧ ∀ j, j ≤ 6 → (j < own_bs f k b → ¬ f j < f (own_bs f k b)) ∧ (own_bs f k b < j → f (own_bs f k b) < f j)
  | 0, b, _, hb, h => ⟨hb, fun j hj => h j (Nat.zero_le _) hj⟩
  | k + 1, b, hk, hb, h => by
    by_cases q : f k < f b
    · rw [own_bs_lt q]
      refine own_bs_ok f k k (Nat.le_refl _) (by omega) fun j h1 h2 => ⟨fun r => absurd r (by omega), fun r => ?_⟩
      by_cases e : j = b
      · rw [e]; exact q
      · by_cases u : j < b
        · have := (h j (by omega) h2).1 u
          rw [Int64.lt_iff_toInt_lt] at *
          omega
        · have := (h j (by omega) h2).2 (by omega)
          rw [Int64.lt_iff_toInt_lt] at *
          omega
    · rw [own_bs_ge q]
      refine own_bs_ok f k b (by omega) hb fun j h1 h2 => ?_
      by_cases e : j = k
      · rw [e]; exact ⟨fun _ => q, fun r => absurd r (by omega)⟩
      · exact h j (by omega) h2
theorem own_clamp {i : Int32} {j : Nat} (h : i.toInt = (j : Int)) : i.toNatClampNeg = j ∧ ¬ i < 0 := by
  have h0 : ¬ i < 0 := by
    rw [Int32.lt_iff_toInt_lt]
    have e : (0 : Int32).toInt = 0 := rfl
    omega
  have e := nat_of h0
  exact ⟨by omega, h0⟩
theorem own_in7 {i : Int32} {j : Nat} (h : i.toInt = (j : Int)) (hj : j ≤ 6) : i.toNatClampNeg = j ∧ ¬ i < 0 ∧ i < (7 : Int32) := by
  obtain ⟨h1, h2⟩ := own_clamp h
  refine ⟨h1, h2, ?_⟩
  rw [Int32.lt_iff_toInt_lt]
  have e : (7 : Int32).toInt = 7 := rfl
  omega
theorem own_get (f : Nat → Int64) : ∀ j, j ≤ 6 → ([(.long (f 0)), (.long (f 1)), (.long (f 2)), (.long (f 3)), (.long (f 4)), (.long (f 5)), (.long (f 6))] : List Value).getD j (.long (0 : Int64)) = .long (f j)
  | 0, _ => rfl
  | 1, _ => rfl
  | 2, _ => rfl
  | 3, _ => rfl
  | 4, _ => rfl
  | 5, _ => rfl
  | 6, _ => rfl
  | _ + 7, h => absurd h (by omega)
theorem own_dec {i : Int32} {k : Nat} (hi : i.toInt = ((k + 1 : Nat) : Int) + 5) (hk : k + 1 ≤ 6) : (i + (-1 : Int32)).toInt = (k : Int) + 5 := by
  have k1 := c_iadd i (-1)
  have k2 := rng32 (i + (-1))
  have k3 : (-1 : Int32).toInt = -1 := by decide
  rw [k3] at k1
  generalize (i + (-1 : Int32)).toInt = z at *
  omega
theorem own_sub6 {i : Int32} {j : Nat} (h : i.toInt = ((j + 6 : Nat) : Int)) : (i - (6 : Int32)).toInt = (j : Int) := by
  have k1 := c_isub i 6
  have k2 := rng32 (i - 6)
  have k3 : (6 : Int32).toInt = 6 := rfl
  have k4 := rng32 i
  omega
theorem d1_0 : decode prog_15_method_2_code 0 = .ok (.bipush 12, 2) := by decide +kernel
theorem d1_2 : decode prog_15_method_2_code 2 = .ok (.istore_n 1, 1) := by decide +kernel
theorem d1_3 : decode prog_15_method_2_code 3 = .ok (.bipush 11, 2) := by decide +kernel
theorem d1_5 : decode prog_15_method_2_code 5 = .ok (.istore_n 2, 1) := by decide +kernel
theorem d1_6 : decode prog_15_method_2_code 6 = .ok (.iload_n 2, 1) := by decide +kernel
theorem d1_7 : decode prog_15_method_2_code 7 = .ok (.bipush 6, 2) := by decide +kernel
theorem d1_9 : decode prog_15_method_2_code 9 = .ok (.if_icmp .lt 27, 3) := by decide +kernel
theorem d1_12 : decode prog_15_method_2_code 12 = .ok (.aload_n 0, 1) := by decide +kernel
theorem d1_13 : decode prog_15_method_2_code 13 = .ok (.iload_n 2, 1) := by decide +kernel
theorem d1_14 : decode prog_15_method_2_code 14 = .ok (.bipush 6, 2) := by decide +kernel
theorem d1_16 : decode prog_15_method_2_code 16 = .ok (.isub, 1) := by decide +kernel
theorem d1_17 : decode prog_15_method_2_code 17 = .ok (.laload, 1) := by decide +kernel
theorem d1_18 : decode prog_15_method_2_code 18 = .ok (.aload_n 0, 1) := by decide +kernel
theorem d1_19 : decode prog_15_method_2_code 19 = .ok (.iload_n 1, 1) := by decide +kernel
theorem d1_20 : decode prog_15_method_2_code 20 = .ok (.bipush 6, 2) := by decide +kernel
theorem d1_22 : decode prog_15_method_2_code 22 = .ok (.isub, 1) := by decide +kernel
theorem d1_23 : decode prog_15_method_2_code 23 = .ok (.laload, 1) := by decide +kernel
theorem d1_24 : decode prog_15_method_2_code 24 = .ok (.lcmp, 1) := by decide +kernel
theorem d1_25 : decode prog_15_method_2_code 25 = .ok (.ifCond .ge 5, 3) := by decide +kernel
theorem d1_28 : decode prog_15_method_2_code 28 = .ok (.iload_n 2, 1) := by decide +kernel
theorem d1_29 : decode prog_15_method_2_code 29 = .ok (.istore_n 1, 1) := by decide +kernel
theorem d1_30 : decode prog_15_method_2_code 30 = .ok (.iinc 2 (-1), 3) := by decide +kernel
theorem d1_33 : decode prog_15_method_2_code 33 = .ok (.goto (-27), 3) := by decide +kernel
theorem d1_36 : decode prog_15_method_2_code 36 = .ok (.iload_n 1, 1) := by decide +kernel
theorem d1_37 : decode prog_15_method_2_code 37 = .ok (.ireturn, 1) := by decide +kernel
theorem pn_1 : plainFor (⟨"com/example/stratum_codecs/stratumcodecs/Blocks", "cheapestShift", "([J)I"⟩ : MethodName) = true := plainFor_of_name (by first | (simp [plainName, overriddenIn]; done) | decide +kernel)
theorem ef_1 (m : MethodId) (x0 : Addr) : entryFrame m #[(.ref x0)] 3 = mkF m 0 #[.val (.ref x0), .unset, .unset] [] := by first | (simp [entryFrame, mkF, argsToLocals, Value.category]; done) | rfl
set_option maxRecDepth 65536 in
set_option maxHeartbeats 40000000 in
theorem rm1 (l : Launch) (Z : State) (tA : Array Value) (hw : ∀ d ∈ tables_1, d.before tA Z = true) (a0 : Addr) (kc : ClassId) (f : Nat → Int64) (h0 : Heap) (V0 : Arv Z h0 a0 kc .long (7 : Int32) [(.long (f 0)), (.long (f 1)), (.long (f 2)), (.long (f 3)), (.long (f 4)), (.long (f 5)), (.long (f 6))] (.long (0 : Int64))) :
    own_Met l Z (⟨"com/example/stratum_codecs/stratumcodecs/Blocks", "cheapestShift", "([J)I"⟩ : MethodName) prog_15_method_2_code 3 (some .int) ({ frames := 0, cells := 0, slots := 0, locals := 0 } : Room) #[(.ref a0)] h0 (own_P (some (.int (Int32.ofNat (own_bs f 6 6 + 6)))) h0) := by
  refine own_body pn_1 ?_
  intro p e s m below meth c s₁ X0 hx hZ hby hml hown hret hlk hnm e0
  have loop : ∀ (kn b : Nat) (i r : Int32) (T0 : State), Stand p l e ({ frames := 0, cells := 0, slots := 0, locals := 0 } : Room) s m #[(.ref a0)] below meth c T0 [] 0 0 → T0.heap = h0 → kn ≤ 6 → b ≤ 6 → i.toInt = (kn : Int) + 5 → r.toInt = ((b + 6 : Nat) : Int) → own_bs f kn b = own_bs f 6 6 → own_Go p e below (own_Post s (own_P (some (.int (Int32.ofNat (own_bs f 6 6 + 6)))) h0) ({ frames := 0, cells := 0, slots := 0, locals := 0 } : Room).cells ({ frames := 0, cells := 0, slots := 0, locals := 0 } : Room).slots) (T0.setTop (mkF m 6 #[.val (.ref a0), .val (.int r), .val (.int i)] [])) := by
    intro kn
    induction kn with
    | zero =>
      intro b i r T0 X0 e0 hk hb6 hi hr hq
      have k6 : (6 : Int32).toInt = 6 := rfl
      have hlt : i < (6 : Int32) := by rw [Int32.lt_iff_toInt_lt]; omega
      have hres : r = (Int32.ofNat (own_bs f 6 6 + 6)) := by
        rw [← hq]
        exact Int32.toInt_inj.mp (by rw [hr]; show _ = (Int32.ofNat (b + 6)).toInt; rw [Int32.toInt_ofNat_of_lt (by omega)])
      show own_Go p e below _ (T0.setTop (mkF m 6 #[.val (.ref a0), .val (.int r), .val (.int i)] []))
      refine own_st (fun _ k => XS.iloadN X0.here hx rfl (hb hby d1_6) rfl k) ?_
      show own_Go p e below _ (T0.setTop (mkF m 7 #[.val (.ref a0), .val (.int r), .val (.int i)] [(.int i)]))
      refine own_st (fun _ k => XS.bipush X0.here hx rfl (hb hby d1_7) k) ?_
      show own_Go p e below _ (T0.setTop (mkF m 9 #[.val (.ref a0), .val (.int r), .val (.int i)] [(.int (6 : Int32)), (.int i)]))
      refine own_st (fun _ k => XS.icmpYes X0.here hx rfl (pc0 := 9) (pc' := 36) rfl (hb hby d1_9) rfl ((own_i2 _ _ _).trans (own_yes (hlt : i < (6 : Int32)))) (by decide) (by decide) k) ?_
      show own_Go p e below _ (T0.setTop (mkF m 36 #[.val (.ref a0), .val (.int r), .val (.int i)] []))
      refine own_st (fun _ k => XS.iloadN X0.here hx rfl (hb hby d1_36) rfl k) ?_
      show own_Go p e below _ (T0.setTop (mkF m 37 #[.val (.ref a0), .val (.int r), .val (.int i)] [(.int r)]))
      exact own_retI X0 hx hlk hret (hb hby d1_37) ⟨congrArg (fun z => some (Value.int z)) hres, rfl, e0⟩ (by decide) (by decide)
    | succ kn ih =>
      intro b i r T0 X0 e0 hk hb6 hi hr hq
      have k6 : (6 : Int32).toInt = 6 := rfl
      have hge : ¬ i < (6 : Int32) := by rw [Int32.lt_iff_toInt_lt]; omega
      have hk6 : kn ≤ 6 := by omega
      have hrk : i.toInt = ((kn + 6 : Nat) : Int) := by omega
      obtain ⟨i1, i2, i3⟩ := own_in7 (own_sub6 hrk) hk6
      obtain ⟨b1, b2, b3⟩ := own_in7 (own_sub6 hr) hb6
      have hi1 := own_dec hi hk
      show own_Go p e below _ (T0.setTop (mkF m 6 #[.val (.ref a0), .val (.int r), .val (.int i)] []))
      refine own_st (fun _ k => XS.iloadN X0.here hx rfl (hb hby d1_6) rfl k) ?_
      show own_Go p e below _ (T0.setTop (mkF m 7 #[.val (.ref a0), .val (.int r), .val (.int i)] [(.int i)]))
      refine own_st (fun _ k => XS.bipush X0.here hx rfl (hb hby d1_7) k) ?_
      show own_Go p e below _ (T0.setTop (mkF m 9 #[.val (.ref a0), .val (.int r), .val (.int i)] [(.int (6 : Int32)), (.int i)]))
      refine own_st (fun _ k => XS.icmpNo X0.here hx rfl (hb hby d1_9) rfl ((own_i2 _ _ _).trans (own_no (hge : ¬ (i < (6 : Int32))))) k) ?_
      show own_Go p e below _ (T0.setTop (mkF m 12 #[.val (.ref a0), .val (.int r), .val (.int i)] []))
      refine own_st (fun _ k => XS.aloadN X0.here hx rfl (hb hby d1_12) rfl rfl k) ?_
      show own_Go p e below _ (T0.setTop (mkF m 13 #[.val (.ref a0), .val (.int r), .val (.int i)] [(.ref a0)]))
      refine own_st (fun _ k => XS.iloadN X0.here hx rfl (hb hby d1_13) rfl k) ?_
      show own_Go p e below _ (T0.setTop (mkF m 14 #[.val (.ref a0), .val (.int r), .val (.int i)] [(.int i), (.ref a0)]))
      refine own_st (fun _ k => XS.bipush X0.here hx rfl (hb hby d1_14) k) ?_
      show own_Go p e below _ (T0.setTop (mkF m 16 #[.val (.ref a0), .val (.int r), .val (.int i)] [(.int (6 : Int32)), (.int i), (.ref a0)]))
      refine own_st (fun _ k => XS.isub X0.here hx rfl (hb hby d1_16) rfl k) ?_
      show own_Go p e below _ (T0.setTop (mkF m 17 #[.val (.ref a0), .val (.int r), .val (.int i)] [(.int (i - (6 : Int32))), (.ref a0)]))
      obtain ⟨cl1, Ar1, hin1, hat1⟩ := own_at V0 (j := (i - (6 : Int32))) ⟨i2, i3⟩ i1 (own_get f kn hk6)
      refine own_st (fun _ k => X0.laload hx (j := (i - (6 : Int32))) (v := (.long (f kn))) (by rw [e0]; exact Ar1.1) (State.isArrayOf_alike hZ.alike Ar1.2.1) Ar1.2.2 hin1 hat1 (g := (mkF m 17 #[.val (.ref a0), .val (.int r), .val (.int i)] [(.int (i - (6 : Int32))), (.ref a0)])) rfl rfl (hb hby d1_17) _ k) ?_
      show own_Go p e below _ (T0.setTop (mkF m 18 #[.val (.ref a0), .val (.int r), .val (.int i)] [(.long (f kn))]))
      refine own_st (fun _ k => XS.aloadN X0.here hx rfl (hb hby d1_18) rfl rfl k) ?_
      show own_Go p e below _ (T0.setTop (mkF m 19 #[.val (.ref a0), .val (.int r), .val (.int i)] [(.ref a0), (.long (f kn))]))
      refine own_st (fun _ k => XS.iloadN X0.here hx rfl (hb hby d1_19) rfl k) ?_
      show own_Go p e below _ (T0.setTop (mkF m 20 #[.val (.ref a0), .val (.int r), .val (.int i)] [(.int r), (.ref a0), (.long (f kn))]))
      refine own_st (fun _ k => XS.bipush X0.here hx rfl (hb hby d1_20) k) ?_
      show own_Go p e below _ (T0.setTop (mkF m 22 #[.val (.ref a0), .val (.int r), .val (.int i)] [(.int (6 : Int32)), (.int r), (.ref a0), (.long (f kn))]))
      refine own_st (fun _ k => XS.isub X0.here hx rfl (hb hby d1_22) rfl k) ?_
      show own_Go p e below _ (T0.setTop (mkF m 23 #[.val (.ref a0), .val (.int r), .val (.int i)] [(.int (r - (6 : Int32))), (.ref a0), (.long (f kn))]))
      obtain ⟨cl2, Ar2, hin2, hat2⟩ := own_at V0 (j := (r - (6 : Int32))) ⟨b2, b3⟩ b1 (own_get f b hb6)
      refine own_st (fun _ k => X0.laload hx (j := (r - (6 : Int32))) (v := (.long (f b))) (by rw [e0]; exact Ar2.1) (State.isArrayOf_alike hZ.alike Ar2.2.1) Ar2.2.2 hin2 hat2 (g := (mkF m 23 #[.val (.ref a0), .val (.int r), .val (.int i)] [(.int (r - (6 : Int32))), (.ref a0), (.long (f kn))])) rfl rfl (hb hby d1_23) _ k) ?_
      show own_Go p e below _ (T0.setTop (mkF m 24 #[.val (.ref a0), .val (.int r), .val (.int i)] [(.long (f b)), (.long (f kn))]))
      refine own_st (fun _ k => XS.lcmp X0.here hx rfl (hb hby d1_24) rfl k) ?_
      show own_Go p e below _ (T0.setTop (mkF m 25 #[.val (.ref a0), .val (.int r), .val (.int i)] [(.int (lcmpW (f kn) (f b)))]))
      by_cases hc25 : (f kn) < (f b)
      · refine own_st (fun _ k => XS.ifNo X0.here hx rfl (hb hby d1_25) rfl ((own_l0 _ _ _).trans (own_nyes (hc25 : (f kn) < (f b)))) k) ?_
        show own_Go p e below _ (T0.setTop (mkF m 28 #[.val (.ref a0), .val (.int r), .val (.int i)] []))
        refine own_st (fun _ k => XS.iloadN X0.here hx rfl (hb hby d1_28) rfl k) ?_
        show own_Go p e below _ (T0.setTop (mkF m 29 #[.val (.ref a0), .val (.int r), .val (.int i)] [(.int i)]))
        refine own_st (fun _ k => XS.istoreN X0.here hx rfl (hb hby d1_29) rfl (l' := #[.val (.ref a0), .val (.int i), .val (.int i)]) rfl k) ?_
        show own_Go p e below _ (T0.setTop (mkF m 30 #[.val (.ref a0), .val (.int i), .val (.int i)] []))
        refine own_st (fun _ k => XS.iinc X0.here hx rfl (hb hby d1_30) rfl (l' := #[.val (.ref a0), .val (.int i), .val (.int (i + (-1 : Int32)))]) rfl k) ?_
        show own_Go p e below _ (T0.setTop (mkF m 33 #[.val (.ref a0), .val (.int i), .val (.int (i + (-1 : Int32)))] []))
        refine own_st (fun _ k => XS.goto X0.here hx rfl (pc0 := 33) (pc' := 6) rfl (hb hby d1_33) (by decide) (by decide) k) ?_
        show own_Go p e below _ (T0.setTop (mkF m 6 #[.val (.ref a0), .val (.int i), .val (.int (i + (-1 : Int32)))] []))
        exact ih kn _ _ _ X0 e0 hk6 hk6 hi1 hrk ((own_bs_lt hc25).symm.trans hq)
      · refine own_st (fun _ k => XS.ifYes X0.here hx rfl (pc0 := 25) (pc' := 30) rfl (hb hby d1_25) rfl ((own_l0 _ _ _).trans (own_nno (hc25 : ¬ ((f kn) < (f b))))) (by decide) (by decide) k) ?_
        show own_Go p e below _ (T0.setTop (mkF m 30 #[.val (.ref a0), .val (.int r), .val (.int i)] []))
        refine own_st (fun _ k => XS.iinc X0.here hx rfl (hb hby d1_30) rfl (l' := #[.val (.ref a0), .val (.int r), .val (.int (i + (-1 : Int32)))]) rfl k) ?_
        show own_Go p e below _ (T0.setTop (mkF m 33 #[.val (.ref a0), .val (.int r), .val (.int (i + (-1 : Int32)))] []))
        refine own_st (fun _ k => XS.goto X0.here hx rfl (pc0 := 33) (pc' := 6) rfl (hb hby d1_33) (by decide) (by decide) k) ?_
        show own_Go p e below _ (T0.setTop (mkF m 6 #[.val (.ref a0), .val (.int r), .val (.int (i + (-1 : Int32)))] []))
        exact ih b _ _ _ X0 e0 hk6 hb6 hi1 hr ((own_bs_ge hc25).symm.trans hq)
  rw [ef_1]
  show own_Go p e below _ (s₁.setTop (mkF m 0 #[.val (.ref a0), .unset, .unset] []))
  refine own_st (fun _ k => XS.bipush X0.here hx rfl (hb hby d1_0) k) ?_
  show own_Go p e below _ (s₁.setTop (mkF m 2 #[.val (.ref a0), .unset, .unset] [(.int (12 : Int32))]))
  refine own_st (fun _ k => XS.istoreN X0.here hx rfl (hb hby d1_2) rfl (l' := #[.val (.ref a0), .val (.int (12 : Int32)), .unset]) rfl k) ?_
  show own_Go p e below _ (s₁.setTop (mkF m 3 #[.val (.ref a0), .val (.int (12 : Int32)), .unset] []))
  refine own_st (fun _ k => XS.bipush X0.here hx rfl (hb hby d1_3) k) ?_
  show own_Go p e below _ (s₁.setTop (mkF m 5 #[.val (.ref a0), .val (.int (12 : Int32)), .unset] [(.int (11 : Int32))]))
  refine own_st (fun _ k => XS.istoreN X0.here hx rfl (hb hby d1_5) rfl (l' := #[.val (.ref a0), .val (.int (12 : Int32)), .val (.int (11 : Int32))]) rfl k) ?_
  show own_Go p e below _ (s₁.setTop (mkF m 6 #[.val (.ref a0), .val (.int (12 : Int32)), .val (.int (11 : Int32))] []))
  exact loop 6 6 (11 : Int32) (12 : Int32) s₁ X0 e0 (by decide) (by decide) rfl rfl rfl
theorem d2_0 : decode method_2_code 0 = .ok (.iload_n 2, 1) := by decide +kernel
theorem d2_1 : decode method_2_code 1 = .ok (.iload_n 1, 1) := by decide +kernel
theorem d2_2 : decode method_2_code 2 = .ok (.if_icmp .ge 19, 3) := by decide +kernel
theorem d2_5 : decode method_2_code 5 = .ok (.aload_n 0, 1) := by decide +kernel
theorem d2_6 : decode method_2_code 6 = .ok (.iload_n 2, 1) := by decide +kernel
theorem d2_7 : decode method_2_code 7 = .ok (.laload, 1) := by decide +kernel
theorem d2_8 : decode method_2_code 8 = .ok (.aload_n 0, 1) := by decide +kernel
theorem d2_9 : decode method_2_code 9 = .ok (.iload_n 1, 1) := by decide +kernel
theorem d2_10 : decode method_2_code 10 = .ok (.laload, 1) := by decide +kernel
theorem d2_11 : decode method_2_code 11 = .ok (.lcmp, 1) := by decide +kernel
theorem d2_12 : decode method_2_code 12 = .ok (.ifCond .lt 7, 3) := by decide +kernel
theorem d2_15 : decode method_2_code 15 = .ok (.iconst 1, 1) := by decide +kernel
theorem d2_16 : decode method_2_code 16 = .ok (.goto 4, 3) := by decide +kernel
theorem d2_19 : decode method_2_code 19 = .ok (.iconst 0, 1) := by decide +kernel
theorem d2_20 : decode method_2_code 20 = .ok (.ireturn, 1) := by decide +kernel
theorem d2_21 : decode method_2_code 21 = .ok (.iload_n 2, 1) := by decide +kernel
theorem d2_22 : decode method_2_code 22 = .ok (.iload_n 1, 1) := by decide +kernel
theorem d2_23 : decode method_2_code 23 = .ok (.if_icmp .le 19, 3) := by decide +kernel
theorem d2_26 : decode method_2_code 26 = .ok (.aload_n 0, 1) := by decide +kernel
theorem d2_27 : decode method_2_code 27 = .ok (.iload_n 2, 1) := by decide +kernel
theorem d2_28 : decode method_2_code 28 = .ok (.laload, 1) := by decide +kernel
theorem d2_29 : decode method_2_code 29 = .ok (.aload_n 0, 1) := by decide +kernel
theorem d2_30 : decode method_2_code 30 = .ok (.iload_n 1, 1) := by decide +kernel
theorem d2_31 : decode method_2_code 31 = .ok (.laload, 1) := by decide +kernel
theorem d2_32 : decode method_2_code 32 = .ok (.lcmp, 1) := by decide +kernel
theorem d2_33 : decode method_2_code 33 = .ok (.ifCond .le 7, 3) := by decide +kernel
theorem d2_36 : decode method_2_code 36 = .ok (.iconst 1, 1) := by decide +kernel
theorem d2_37 : decode method_2_code 37 = .ok (.goto 4, 3) := by decide +kernel
theorem d2_40 : decode method_2_code 40 = .ok (.iconst 0, 1) := by decide +kernel
theorem d2_41 : decode method_2_code 41 = .ok (.ireturn, 1) := by decide +kernel
theorem d2_42 : decode method_2_code 42 = .ok (.iconst 1, 1) := by decide +kernel
theorem d2_43 : decode method_2_code 43 = .ok (.ireturn, 1) := by decide +kernel
theorem pn_2 : plainFor (⟨"com/example/stratum_codecs/stratumcodecs/BlocksCheapestShiftPinLaw", "ok", "([JII)Z"⟩ : MethodName) = true := plainFor_of_name (by first | (simp [plainName, overriddenIn]; done) | decide +kernel)
theorem ef_2 (m : MethodId) (x0 : Addr) (x1 : Int32) (x2 : Int32) : entryFrame m #[(.ref x0), (.int x1), (.int x2)] 3 = mkF m 0 #[.val (.ref x0), .val (.int x1), .val (.int x2)] [] := by first | (simp [entryFrame, mkF, argsToLocals, Value.category]; done) | rfl
set_option maxRecDepth 65536 in
set_option maxHeartbeats 40000000 in
theorem rm2 (l : Launch) (Z : State) (tA : Array Value) (hw : ∀ d ∈ tables_1, d.before tA Z = true) (a0 : Addr) (p1 : Int32) (p2 : Int32) (kc : ClassId) (f : Nat → Int64) (mm ii : Nat) (h0 : Heap) (V0 : Arv Z h0 a0 kc .long (7 : Int32) [(.long (f 0)), (.long (f 1)), (.long (f 2)), (.long (f 3)), (.long (f 4)), (.long (f 5)), (.long (f 6))] (.long (0 : Int64))) (hm : p1.toInt = (mm : Int)) (hm6 : mm ≤ 6) (hi : p2.toInt = (ii : Int)) (hi6 : ii ≤ 6) (ho : (ii < mm → ¬ f ii < f mm) ∧ (mm < ii → f mm < f ii)) :
    own_Met l Z (⟨"com/example/stratum_codecs/stratumcodecs/BlocksCheapestShiftPinLaw", "ok", "([JII)Z"⟩ : MethodName) method_2_code 3 (some .boolean) ({ frames := 0, cells := 0, slots := 0, locals := 0 } : Room) #[(.ref a0), (.int p1), (.int p2)] h0 (own_P (some (.int (1 : Int32))) h0) := by
  refine own_body pn_2 ?_
  intro p e s m below meth c s₁ X0 hx hZ hby hml hown hret hlk hnm e0
  have qi := own_in7 hi hi6
  have qm := own_in7 hm hm6
  rw [ef_2]
  show own_Go p e below _ (s₁.setTop (mkF m 0 #[.val (.ref a0), .val (.int p1), .val (.int p2)] []))
  refine own_st (fun _ k => XS.iloadN X0.here hx rfl (hb hby d2_0) rfl k) ?_
  show own_Go p e below _ (s₁.setTop (mkF m 1 #[.val (.ref a0), .val (.int p1), .val (.int p2)] [(.int p2)]))
  refine own_st (fun _ k => XS.iloadN X0.here hx rfl (hb hby d2_1) rfl k) ?_
  show own_Go p e below _ (s₁.setTop (mkF m 2 #[.val (.ref a0), .val (.int p1), .val (.int p2)] [(.int p1), (.int p2)]))
  by_cases hc2 : p2 < p1
  · refine own_st (fun _ k => XS.icmpNo X0.here hx rfl (hb hby d2_2) rfl ((own_i2 _ _ _).trans (own_nyes (hc2 : p2 < p1))) k) ?_
    show own_Go p e below _ (s₁.setTop (mkF m 5 #[.val (.ref a0), .val (.int p1), .val (.int p2)] []))
    have hlt' : ii < mm := by rw [Int32.lt_iff_toInt_lt] at hc2; omega
    refine own_st (fun _ k => XS.aloadN X0.here hx rfl (hb hby d2_5) rfl rfl k) ?_
    show own_Go p e below _ (s₁.setTop (mkF m 6 #[.val (.ref a0), .val (.int p1), .val (.int p2)] [(.ref a0)]))
    refine own_st (fun _ k => XS.iloadN X0.here hx rfl (hb hby d2_6) rfl k) ?_
    show own_Go p e below _ (s₁.setTop (mkF m 7 #[.val (.ref a0), .val (.int p1), .val (.int p2)] [(.int p2), (.ref a0)]))
    obtain ⟨cl1, Ar1, hin1, hat1⟩ := own_at V0 (j := p2) ⟨qi.2.1, qi.2.2⟩ qi.1 (own_get f ii (by omega))
    refine own_st (fun _ k => X0.laload hx (j := p2) (v := (.long (f ii))) (by rw [e0]; exact Ar1.1) (State.isArrayOf_alike hZ.alike Ar1.2.1) Ar1.2.2 hin1 hat1 (g := (mkF m 7 #[.val (.ref a0), .val (.int p1), .val (.int p2)] [(.int p2), (.ref a0)])) rfl rfl (hb hby d2_7) _ k) ?_
    show own_Go p e below _ (s₁.setTop (mkF m 8 #[.val (.ref a0), .val (.int p1), .val (.int p2)] [(.long (f ii))]))
    refine own_st (fun _ k => XS.aloadN X0.here hx rfl (hb hby d2_8) rfl rfl k) ?_
    show own_Go p e below _ (s₁.setTop (mkF m 9 #[.val (.ref a0), .val (.int p1), .val (.int p2)] [(.ref a0), (.long (f ii))]))
    refine own_st (fun _ k => XS.iloadN X0.here hx rfl (hb hby d2_9) rfl k) ?_
    show own_Go p e below _ (s₁.setTop (mkF m 10 #[.val (.ref a0), .val (.int p1), .val (.int p2)] [(.int p1), (.ref a0), (.long (f ii))]))
    obtain ⟨cl2, Ar2, hin2, hat2⟩ := own_at V0 (j := p1) ⟨qm.2.1, qm.2.2⟩ qm.1 (own_get f mm (by omega))
    refine own_st (fun _ k => X0.laload hx (j := p1) (v := (.long (f mm))) (by rw [e0]; exact Ar2.1) (State.isArrayOf_alike hZ.alike Ar2.2.1) Ar2.2.2 hin2 hat2 (g := (mkF m 10 #[.val (.ref a0), .val (.int p1), .val (.int p2)] [(.int p1), (.ref a0), (.long (f ii))])) rfl rfl (hb hby d2_10) _ k) ?_
    show own_Go p e below _ (s₁.setTop (mkF m 11 #[.val (.ref a0), .val (.int p1), .val (.int p2)] [(.long (f mm)), (.long (f ii))]))
    refine own_st (fun _ k => XS.lcmp X0.here hx rfl (hb hby d2_11) rfl k) ?_
    show own_Go p e below _ (s₁.setTop (mkF m 12 #[.val (.ref a0), .val (.int p1), .val (.int p2)] [(.int (lcmpW (f ii) (f mm)))]))
    refine own_st (fun _ k => XS.ifNo X0.here hx rfl (hb hby d2_12) rfl ((own_l0 _ _ _).trans (own_no ((ho.1 hlt') : ¬ ((f ii) < (f mm))))) k) ?_
    show own_Go p e below _ (s₁.setTop (mkF m 15 #[.val (.ref a0), .val (.int p1), .val (.int p2)] []))
    refine own_st (fun _ k => XS.iconst X0.here hx rfl (hb hby d2_15) k) ?_
    show own_Go p e below _ (s₁.setTop (mkF m 16 #[.val (.ref a0), .val (.int p1), .val (.int p2)] [(.int (1 : Int32))]))
    refine own_st (fun _ k => XS.goto X0.here hx rfl (pc0 := 16) (pc' := 20) rfl (hb hby d2_16) (by decide) (by decide) k) ?_
    show own_Go p e below _ (s₁.setTop (mkF m 20 #[.val (.ref a0), .val (.int p1), .val (.int p2)] [(.int (1 : Int32))]))
    exact own_retZ X0 hx hlk hret rfl (hb hby d2_20) ⟨rfl, rfl, e0⟩ (by decide) (by decide)
  · refine own_st (fun _ k => XS.icmpYes X0.here hx rfl (pc0 := 2) (pc' := 21) rfl (hb hby d2_2) rfl ((own_i2 _ _ _).trans (own_nno (hc2 : ¬ (p2 < p1)))) (by decide) (by decide) k) ?_
    show own_Go p e below _ (s₁.setTop (mkF m 21 #[.val (.ref a0), .val (.int p1), .val (.int p2)] []))
    refine own_st (fun _ k => XS.iloadN X0.here hx rfl (hb hby d2_21) rfl k) ?_
    show own_Go p e below _ (s₁.setTop (mkF m 22 #[.val (.ref a0), .val (.int p1), .val (.int p2)] [(.int p2)]))
    refine own_st (fun _ k => XS.iloadN X0.here hx rfl (hb hby d2_22) rfl k) ?_
    show own_Go p e below _ (s₁.setTop (mkF m 23 #[.val (.ref a0), .val (.int p1), .val (.int p2)] [(.int p1), (.int p2)]))
    by_cases hc23 : p1 < p2
    · refine own_st (fun _ k => XS.icmpNo X0.here hx rfl (hb hby d2_23) rfl ((own_i2 _ _ _).trans (own_nyes (hc23 : p1 < p2))) k) ?_
      show own_Go p e below _ (s₁.setTop (mkF m 26 #[.val (.ref a0), .val (.int p1), .val (.int p2)] []))
      have hgt' : mm < ii := by rw [Int32.lt_iff_toInt_lt] at hc23; omega
      refine own_st (fun _ k => XS.aloadN X0.here hx rfl (hb hby d2_26) rfl rfl k) ?_
      show own_Go p e below _ (s₁.setTop (mkF m 27 #[.val (.ref a0), .val (.int p1), .val (.int p2)] [(.ref a0)]))
      refine own_st (fun _ k => XS.iloadN X0.here hx rfl (hb hby d2_27) rfl k) ?_
      show own_Go p e below _ (s₁.setTop (mkF m 28 #[.val (.ref a0), .val (.int p1), .val (.int p2)] [(.int p2), (.ref a0)]))
      obtain ⟨cl3, Ar3, hin3, hat3⟩ := own_at V0 (j := p2) ⟨qi.2.1, qi.2.2⟩ qi.1 (own_get f ii (by omega))
      refine own_st (fun _ k => X0.laload hx (j := p2) (v := (.long (f ii))) (by rw [e0]; exact Ar3.1) (State.isArrayOf_alike hZ.alike Ar3.2.1) Ar3.2.2 hin3 hat3 (g := (mkF m 28 #[.val (.ref a0), .val (.int p1), .val (.int p2)] [(.int p2), (.ref a0)])) rfl rfl (hb hby d2_28) _ k) ?_
      show own_Go p e below _ (s₁.setTop (mkF m 29 #[.val (.ref a0), .val (.int p1), .val (.int p2)] [(.long (f ii))]))
      refine own_st (fun _ k => XS.aloadN X0.here hx rfl (hb hby d2_29) rfl rfl k) ?_
      show own_Go p e below _ (s₁.setTop (mkF m 30 #[.val (.ref a0), .val (.int p1), .val (.int p2)] [(.ref a0), (.long (f ii))]))
      refine own_st (fun _ k => XS.iloadN X0.here hx rfl (hb hby d2_30) rfl k) ?_
      show own_Go p e below _ (s₁.setTop (mkF m 31 #[.val (.ref a0), .val (.int p1), .val (.int p2)] [(.int p1), (.ref a0), (.long (f ii))]))
      obtain ⟨cl4, Ar4, hin4, hat4⟩ := own_at V0 (j := p1) ⟨qm.2.1, qm.2.2⟩ qm.1 (own_get f mm (by omega))
      refine own_st (fun _ k => X0.laload hx (j := p1) (v := (.long (f mm))) (by rw [e0]; exact Ar4.1) (State.isArrayOf_alike hZ.alike Ar4.2.1) Ar4.2.2 hin4 hat4 (g := (mkF m 31 #[.val (.ref a0), .val (.int p1), .val (.int p2)] [(.int p1), (.ref a0), (.long (f ii))])) rfl rfl (hb hby d2_31) _ k) ?_
      show own_Go p e below _ (s₁.setTop (mkF m 32 #[.val (.ref a0), .val (.int p1), .val (.int p2)] [(.long (f mm)), (.long (f ii))]))
      refine own_st (fun _ k => XS.lcmp X0.here hx rfl (hb hby d2_32) rfl k) ?_
      show own_Go p e below _ (s₁.setTop (mkF m 33 #[.val (.ref a0), .val (.int p1), .val (.int p2)] [(.int (lcmpW (f ii) (f mm)))]))
      refine own_st (fun _ k => XS.ifNo X0.here hx rfl (hb hby d2_33) rfl ((own_l0 _ _ _).trans (own_nyes ((ho.2 hgt') : (f mm) < (f ii)))) k) ?_
      show own_Go p e below _ (s₁.setTop (mkF m 36 #[.val (.ref a0), .val (.int p1), .val (.int p2)] []))
      refine own_st (fun _ k => XS.iconst X0.here hx rfl (hb hby d2_36) k) ?_
      show own_Go p e below _ (s₁.setTop (mkF m 37 #[.val (.ref a0), .val (.int p1), .val (.int p2)] [(.int (1 : Int32))]))
      refine own_st (fun _ k => XS.goto X0.here hx rfl (pc0 := 37) (pc' := 41) rfl (hb hby d2_37) (by decide) (by decide) k) ?_
      show own_Go p e below _ (s₁.setTop (mkF m 41 #[.val (.ref a0), .val (.int p1), .val (.int p2)] [(.int (1 : Int32))]))
      exact own_retZ X0 hx hlk hret rfl (hb hby d2_41) ⟨rfl, rfl, e0⟩ (by decide) (by decide)
    · refine own_st (fun _ k => XS.icmpYes X0.here hx rfl (pc0 := 23) (pc' := 42) rfl (hb hby d2_23) rfl ((own_i2 _ _ _).trans (own_nno (hc23 : ¬ (p1 < p2)))) (by decide) (by decide) k) ?_
      show own_Go p e below _ (s₁.setTop (mkF m 42 #[.val (.ref a0), .val (.int p1), .val (.int p2)] []))
      refine own_st (fun _ k => XS.iconst X0.here hx rfl (hb hby d2_42) k) ?_
      show own_Go p e below _ (s₁.setTop (mkF m 43 #[.val (.ref a0), .val (.int p1), .val (.int p2)] [(.int (1 : Int32))]))
      exact own_retZ X0 hx hlk hret rfl (hb hby d2_43) ⟨rfl, rfl, e0⟩ (by decide) (by decide)
theorem own_ldJ {Z : State} {h : Heap} {a : Addr} {k : ClassId} {z j : Int32} {vs : List Value} {dv : Value} (F : Arv Z h a k .long z vs dv) (q : ¬ j < 0 ∧ j < z) : ∃ (cl : Cell) (v : Int64), Arr Z h a cl .long ∧ ¬ (j < 0 ∨ cl.slots.size ≤ j.toNatClampNeg) ∧ cl.slots[j.toNatClampNeg]? = some (.long v) := by
  obtain ⟨cl, A, -, S, M, H, G⟩ := F
  have hin := inb_of S q
  have hlt : j.toNatClampNeg < cl.slots.size := Nat.lt_of_not_le fun y => hin (Or.inr y)
  obtain ⟨v, hv⟩ := fit_J (G _ hlt)
  exact ⟨cl, v, A, hin, by rw [H _ hlt, hv]⟩
theorem own_ix (x : Int32) : ¬ (x &&& (7 : Int32)) < 0 ∧ (x &&& (7 : Int32)) < (8 : Int32) := by
  have e1 := c_mask x (7 : Int32) 3 (by decide) (by decide)
  simp only [Int32.lt_iff_toInt_lt]
  have e3 : (0 : Int32).toInt = 0 := rfl
  have e4 : (8 : Int32).toInt = 8 := rfl
  rw [e1, e3, e4]
  omega
theorem own_lo {r : Int32} {b : Nat} (h : r.toInt = ((b + 6 : Nat) : Int)) : ¬ r < (6 : Int32) := by
  rw [Int32.lt_iff_toInt_lt]
  have e : (6 : Int32).toInt = 6 := rfl
  omega
theorem own_hi {r : Int32} {b : Nat} (h : r.toInt = ((b + 6 : Nat) : Int)) (hb : b ≤ 6) : ¬ (12 : Int32) < r := by
  rw [Int32.lt_iff_toInt_lt]
  have e : (12 : Int32).toInt = 12 := rfl
  omega
theorem pn_0 : plainFor (⟨"com/example/stratum_codecs/stratumcodecs/BlocksCheapestShiftPinLaw", "law", "(JJJJJI)Z"⟩ : MethodName) = true := plainFor_of_name (by first | (simp [plainName, overriddenIn]; done) | decide +kernel)
theorem ef_0 (m : MethodId) (x0 : Int64) (x1 : Int64) (x2 : Int64) (x3 : Int64) (x4 : Int64) (x5 : Int32) : entryFrame m #[(.long x0), (.long x1), (.long x2), (.long x3), (.long x4), (.int x5)] maxLocals = mkF m 0 #[.val (.long x0), .second, .val (.long x1), .second, .val (.long x2), .second, .val (.long x3), .second, .val (.long x4), .second, .val (.int x5), .unset, .unset, .unset, .unset] [] := by first | (simp [entryFrame, mkF, argsToLocals, Value.category, maxLocals]; done) | rfl
set_option maxRecDepth 65536 in
set_option maxHeartbeats 40000000 in
theorem rm0 (l : Launch) (Z : State) (tA : Array Value) (hw : ∀ d ∈ tables_1, d.before tA Z = true) (q0 : Int64) (q1 : Int64) (q2 : Int64) (q3 : Int64) (q4 : Int64) (p5 : Int32) (h0 : Heap) (n0 : Nat) (Z0 : n0 ≤ h0.size) :
    MetFree l x (head1 (Jvm.Cond.code x code maxLocals ret :: tables_1) room_1) (fun a U => a = #[(.long q0), (.long q1), (.long q2), (.long q3), (.long q4), (.int p5)] ∧ Z.Warmed39 U.vm ∧ U.heap = h0) (fun _ _ _ _ _ => True) (fun _ U o U' => own_Post U (fun v _ L => v = some (.int (1 : Int32)) ∧ Fr n0 L) 16 128 o U') := by
  refine own_body pn_0 ?_
  intro p e s m below meth c s₁ X0 hx hZ hby hml hown hret hlk hnm e0
  have N0 := Fr.nil n0
  rw [ef_0]
  show own_Go p e below _ (s₁.setTop (mkF m 0 #[.val (.long q0), .second, .val (.long q1), .second, .val (.long q2), .second, .val (.long q3), .second, .val (.long q4), .second, .val (.int p5), .unset, .unset, .unset, .unset] []))
  refine own_st (fun _ k => XS.bipush X0.here hx rfl (hb hby at_0) k) ?_
  show own_Go p e below _ (s₁.setTop (mkF m 2 #[.val (.long q0), .second, .val (.long q1), .second, .val (.long q2), .second, .val (.long q3), .second, .val (.long q4), .second, .val (.int p5), .unset, .unset, .unset, .unset] [(.int (8 : Int32))]))
  obtain ⟨T1, h1, k1, X1, e1, E1, A1, st1⟩ := newP X0 hx hZ (hw _ (List.mem_of_getElem? (i := 0) rfl)) e0 (g := (mkF m 2 #[.val (.long q0), .second, .val (.long q1), .second, .val (.long q2), .second, .val (.long q3), .second, .val (.long q4), .second, .val (.int p5), .unset, .unset, .unset, .unset] [(.int (8 : Int32))])) rfl (hb hby at_2) rfl (by decide) (cap := 8) (by decide) (by decide) (by decide) (by decide)
  refine own_st st1 ?_
  obtain ⟨b1, g1⟩ : ∃ z, z = h0.size := ⟨_, rfl⟩
  rw [← g1] at A1 ⊢
  have g_b1 : n0 ≤ b1 := Nat.le_trans Z0 (Nat.le_of_eq g1.symm)
  replace Z0 := Nat.le_trans Z0 E1.1
  have V_b1 : Arv Z h1 b1 k1 .long (8 : Int32) [(.long (0 : Int64)), (.long (0 : Int64)), (.long (0 : Int64)), (.long (0 : Int64)), (.long (0 : Int64)), (.long (0 : Int64)), (.long (0 : Int64)), (.long (0 : Int64))] (.long (0 : Int64)) := (Arv.new A1 (by decide)).pad (pad_rep [] (.long (0 : Int64)) 8)
  show own_Go p e below _ (T1.setTop (mkF m 4 #[.val (.long q0), .second, .val (.long q1), .second, .val (.long q2), .second, .val (.long q3), .second, .val (.long q4), .second, .val (.int p5), .unset, .unset, .unset, .unset] [(.ref b1)]))
  refine own_st (fun _ k => XS.astore X1.here hx rfl (hb hby at_4) rfl rfl (l' := #[.val (.long q0), .second, .val (.long q1), .second, .val (.long q2), .second, .val (.long q3), .second, .val (.long q4), .second, .val (.int p5), .val (.ref b1), .unset, .unset, .unset]) rfl k) ?_
  show own_Go p e below _ (T1.setTop (mkF m 6 #[.val (.long q0), .second, .val (.long q1), .second, .val (.long q2), .second, .val (.long q3), .second, .val (.long q4), .second, .val (.int p5), .val (.ref b1), .unset, .unset, .unset] []))
  refine own_st (fun _ k => XS.aload X1.here hx rfl (hb hby at_6) rfl rfl k) ?_
  show own_Go p e below _ (T1.setTop (mkF m 8 #[.val (.long q0), .second, .val (.long q1), .second, .val (.long q2), .second, .val (.long q3), .second, .val (.long q4), .second, .val (.int p5), .val (.ref b1), .unset, .unset, .unset] [(.ref b1)]))
  refine own_st (fun _ k => XS.iconst X1.here hx rfl (hb hby at_8) k) ?_
  show own_Go p e below _ (T1.setTop (mkF m 9 #[.val (.long q0), .second, .val (.long q1), .second, .val (.long q2), .second, .val (.long q3), .second, .val (.long q4), .second, .val (.int p5), .val (.ref b1), .unset, .unset, .unset] [(.int (0 : Int32)), (.ref b1)]))
  refine own_st (fun _ k => XS.lloadN X1.here hx rfl (hb hby at_9) rfl k) ?_
  show own_Go p e below _ (T1.setTop (mkF m 10 #[.val (.long q0), .second, .val (.long q1), .second, .val (.long q2), .second, .val (.long q3), .second, .val (.long q4), .second, .val (.int p5), .val (.ref b1), .unset, .unset, .unset] [(.long q0), (.int (0 : Int32)), (.ref b1)]))
  obtain ⟨cl2, Ar2, qc2, S2, M2, H2, G2⟩ := V_b1
  obtain ⟨T2, h2, X2, e2, W2, st2⟩ := stJ X1 hx hZ e1 Ar2 (j := (0 : Int32)) (inb_of S2 ⟨by decide, by decide⟩) (g := (mkF m 10 #[.val (.long q0), .second, .val (.long q1), .second, .val (.long q2), .second, .val (.long q3), .second, .val (.long q4), .second, .val (.int p5), .val (.ref b1), .unset, .unset, .unset] [(.long q0), (.int (0 : Int32)), (.ref b1)])) rfl rfl (hb hby at_10)
  refine own_st st2 ?_
  replace Z0 := Nat.le_trans Z0 (Nat.le_of_eq W2.size.symm)
  replace N0 := Fr.snoc X2 N0 g_b1
  have V_b1 : Arv Z h2 b1 k1 .long (8 : Int32) [(.long q0), (.long (0 : Int64)), (.long (0 : Int64)), (.long (0 : Int64)), (.long (0 : Int64)), (.long (0 : Int64)), (.long (0 : Int64)), (.long (0 : Int64))] (.long (0 : Int64)) := Arv.set Ar2 qc2 S2 M2 H2 G2 rfl W2 0 rfl (Nat.le_of_ble_eq_true rfl)
  show own_Go p e below _ (T2.setTop (mkF m 11 #[.val (.long q0), .second, .val (.long q1), .second, .val (.long q2), .second, .val (.long q3), .second, .val (.long q4), .second, .val (.int p5), .val (.ref b1), .unset, .unset, .unset] []))
  refine own_st (fun _ k => XS.aload X2.here hx rfl (hb hby at_11) rfl rfl k) ?_
  show own_Go p e below _ (T2.setTop (mkF m 13 #[.val (.long q0), .second, .val (.long q1), .second, .val (.long q2), .second, .val (.long q3), .second, .val (.long q4), .second, .val (.int p5), .val (.ref b1), .unset, .unset, .unset] [(.ref b1)]))
  refine own_st (fun _ k => XS.iconst X2.here hx rfl (hb hby at_13) k) ?_
  show own_Go p e below _ (T2.setTop (mkF m 14 #[.val (.long q0), .second, .val (.long q1), .second, .val (.long q2), .second, .val (.long q3), .second, .val (.long q4), .second, .val (.int p5), .val (.ref b1), .unset, .unset, .unset] [(.int (1 : Int32)), (.ref b1)]))
  refine own_st (fun _ k => XS.lloadN X2.here hx rfl (hb hby at_14) rfl k) ?_
  show own_Go p e below _ (T2.setTop (mkF m 15 #[.val (.long q0), .second, .val (.long q1), .second, .val (.long q2), .second, .val (.long q3), .second, .val (.long q4), .second, .val (.int p5), .val (.ref b1), .unset, .unset, .unset] [(.long q1), (.int (1 : Int32)), (.ref b1)]))
  obtain ⟨cl3, Ar3, qc3, S3, M3, H3, G3⟩ := V_b1
  obtain ⟨T3, h3, X3, e3, W3, st3⟩ := stJ X2 hx hZ e2 Ar3 (j := (1 : Int32)) (inb_of S3 ⟨by decide, by decide⟩) (g := (mkF m 15 #[.val (.long q0), .second, .val (.long q1), .second, .val (.long q2), .second, .val (.long q3), .second, .val (.long q4), .second, .val (.int p5), .val (.ref b1), .unset, .unset, .unset] [(.long q1), (.int (1 : Int32)), (.ref b1)])) rfl rfl (hb hby at_15)
  refine own_st st3 ?_
  replace Z0 := Nat.le_trans Z0 (Nat.le_of_eq W3.size.symm)
  replace N0 := Fr.snoc X3 N0 g_b1
  have V_b1 : Arv Z h3 b1 k1 .long (8 : Int32) [(.long q0), (.long q1), (.long (0 : Int64)), (.long (0 : Int64)), (.long (0 : Int64)), (.long (0 : Int64)), (.long (0 : Int64)), (.long (0 : Int64))] (.long (0 : Int64)) := Arv.set Ar3 qc3 S3 M3 H3 G3 rfl W3 1 rfl (Nat.le_of_ble_eq_true rfl)
  show own_Go p e below _ (T3.setTop (mkF m 16 #[.val (.long q0), .second, .val (.long q1), .second, .val (.long q2), .second, .val (.long q3), .second, .val (.long q4), .second, .val (.int p5), .val (.ref b1), .unset, .unset, .unset] []))
  refine own_st (fun _ k => XS.aload X3.here hx rfl (hb hby at_16) rfl rfl k) ?_
  show own_Go p e below _ (T3.setTop (mkF m 18 #[.val (.long q0), .second, .val (.long q1), .second, .val (.long q2), .second, .val (.long q3), .second, .val (.long q4), .second, .val (.int p5), .val (.ref b1), .unset, .unset, .unset] [(.ref b1)]))
  refine own_st (fun _ k => XS.iconst X3.here hx rfl (hb hby at_18) k) ?_
  show own_Go p e below _ (T3.setTop (mkF m 19 #[.val (.long q0), .second, .val (.long q1), .second, .val (.long q2), .second, .val (.long q3), .second, .val (.long q4), .second, .val (.int p5), .val (.ref b1), .unset, .unset, .unset] [(.int (2 : Int32)), (.ref b1)]))
  refine own_st (fun _ k => XS.lload X3.here hx rfl (hb hby at_19) rfl k) ?_
  show own_Go p e below _ (T3.setTop (mkF m 21 #[.val (.long q0), .second, .val (.long q1), .second, .val (.long q2), .second, .val (.long q3), .second, .val (.long q4), .second, .val (.int p5), .val (.ref b1), .unset, .unset, .unset] [(.long q2), (.int (2 : Int32)), (.ref b1)]))
  obtain ⟨cl4, Ar4, qc4, S4, M4, H4, G4⟩ := V_b1
  obtain ⟨T4, h4, X4, e4, W4, st4⟩ := stJ X3 hx hZ e3 Ar4 (j := (2 : Int32)) (inb_of S4 ⟨by decide, by decide⟩) (g := (mkF m 21 #[.val (.long q0), .second, .val (.long q1), .second, .val (.long q2), .second, .val (.long q3), .second, .val (.long q4), .second, .val (.int p5), .val (.ref b1), .unset, .unset, .unset] [(.long q2), (.int (2 : Int32)), (.ref b1)])) rfl rfl (hb hby at_21)
  refine own_st st4 ?_
  replace Z0 := Nat.le_trans Z0 (Nat.le_of_eq W4.size.symm)
  replace N0 := Fr.snoc X4 N0 g_b1
  have V_b1 : Arv Z h4 b1 k1 .long (8 : Int32) [(.long q0), (.long q1), (.long q2), (.long (0 : Int64)), (.long (0 : Int64)), (.long (0 : Int64)), (.long (0 : Int64)), (.long (0 : Int64))] (.long (0 : Int64)) := Arv.set Ar4 qc4 S4 M4 H4 G4 rfl W4 2 rfl (Nat.le_of_ble_eq_true rfl)
  show own_Go p e below _ (T4.setTop (mkF m 22 #[.val (.long q0), .second, .val (.long q1), .second, .val (.long q2), .second, .val (.long q3), .second, .val (.long q4), .second, .val (.int p5), .val (.ref b1), .unset, .unset, .unset] []))
  refine own_st (fun _ k => XS.aload X4.here hx rfl (hb hby at_22) rfl rfl k) ?_
  show own_Go p e below _ (T4.setTop (mkF m 24 #[.val (.long q0), .second, .val (.long q1), .second, .val (.long q2), .second, .val (.long q3), .second, .val (.long q4), .second, .val (.int p5), .val (.ref b1), .unset, .unset, .unset] [(.ref b1)]))
  refine own_st (fun _ k => XS.iconst X4.here hx rfl (hb hby at_24) k) ?_
  show own_Go p e below _ (T4.setTop (mkF m 25 #[.val (.long q0), .second, .val (.long q1), .second, .val (.long q2), .second, .val (.long q3), .second, .val (.long q4), .second, .val (.int p5), .val (.ref b1), .unset, .unset, .unset] [(.int (3 : Int32)), (.ref b1)]))
  refine own_st (fun _ k => XS.lload X4.here hx rfl (hb hby at_25) rfl k) ?_
  show own_Go p e below _ (T4.setTop (mkF m 27 #[.val (.long q0), .second, .val (.long q1), .second, .val (.long q2), .second, .val (.long q3), .second, .val (.long q4), .second, .val (.int p5), .val (.ref b1), .unset, .unset, .unset] [(.long q3), (.int (3 : Int32)), (.ref b1)]))
  obtain ⟨cl5, Ar5, qc5, S5, M5, H5, G5⟩ := V_b1
  obtain ⟨T5, h5, X5, e5, W5, st5⟩ := stJ X4 hx hZ e4 Ar5 (j := (3 : Int32)) (inb_of S5 ⟨by decide, by decide⟩) (g := (mkF m 27 #[.val (.long q0), .second, .val (.long q1), .second, .val (.long q2), .second, .val (.long q3), .second, .val (.long q4), .second, .val (.int p5), .val (.ref b1), .unset, .unset, .unset] [(.long q3), (.int (3 : Int32)), (.ref b1)])) rfl rfl (hb hby at_27)
  refine own_st st5 ?_
  replace Z0 := Nat.le_trans Z0 (Nat.le_of_eq W5.size.symm)
  replace N0 := Fr.snoc X5 N0 g_b1
  have V_b1 : Arv Z h5 b1 k1 .long (8 : Int32) [(.long q0), (.long q1), (.long q2), (.long q3), (.long (0 : Int64)), (.long (0 : Int64)), (.long (0 : Int64)), (.long (0 : Int64))] (.long (0 : Int64)) := Arv.set Ar5 qc5 S5 M5 H5 G5 rfl W5 3 rfl (Nat.le_of_ble_eq_true rfl)
  show own_Go p e below _ (T5.setTop (mkF m 28 #[.val (.long q0), .second, .val (.long q1), .second, .val (.long q2), .second, .val (.long q3), .second, .val (.long q4), .second, .val (.int p5), .val (.ref b1), .unset, .unset, .unset] []))
  refine own_st (fun _ k => XS.aload X5.here hx rfl (hb hby at_28) rfl rfl k) ?_
  show own_Go p e below _ (T5.setTop (mkF m 30 #[.val (.long q0), .second, .val (.long q1), .second, .val (.long q2), .second, .val (.long q3), .second, .val (.long q4), .second, .val (.int p5), .val (.ref b1), .unset, .unset, .unset] [(.ref b1)]))
  refine own_st (fun _ k => XS.iconst X5.here hx rfl (hb hby at_30) k) ?_
  show own_Go p e below _ (T5.setTop (mkF m 31 #[.val (.long q0), .second, .val (.long q1), .second, .val (.long q2), .second, .val (.long q3), .second, .val (.long q4), .second, .val (.int p5), .val (.ref b1), .unset, .unset, .unset] [(.int (4 : Int32)), (.ref b1)]))
  refine own_st (fun _ k => XS.lload X5.here hx rfl (hb hby at_31) rfl k) ?_
  show own_Go p e below _ (T5.setTop (mkF m 33 #[.val (.long q0), .second, .val (.long q1), .second, .val (.long q2), .second, .val (.long q3), .second, .val (.long q4), .second, .val (.int p5), .val (.ref b1), .unset, .unset, .unset] [(.long q4), (.int (4 : Int32)), (.ref b1)]))
  obtain ⟨cl6, Ar6, qc6, S6, M6, H6, G6⟩ := V_b1
  obtain ⟨T6, h6, X6, e6, W6, st6⟩ := stJ X5 hx hZ e5 Ar6 (j := (4 : Int32)) (inb_of S6 ⟨by decide, by decide⟩) (g := (mkF m 33 #[.val (.long q0), .second, .val (.long q1), .second, .val (.long q2), .second, .val (.long q3), .second, .val (.long q4), .second, .val (.int p5), .val (.ref b1), .unset, .unset, .unset] [(.long q4), (.int (4 : Int32)), (.ref b1)])) rfl rfl (hb hby at_33)
  refine own_st st6 ?_
  replace Z0 := Nat.le_trans Z0 (Nat.le_of_eq W6.size.symm)
  replace N0 := Fr.snoc X6 N0 g_b1
  have V_b1 : Arv Z h6 b1 k1 .long (8 : Int32) [(.long q0), (.long q1), (.long q2), (.long q3), (.long q4), (.long (0 : Int64)), (.long (0 : Int64)), (.long (0 : Int64))] (.long (0 : Int64)) := Arv.set Ar6 qc6 S6 M6 H6 G6 rfl W6 4 rfl (Nat.le_of_ble_eq_true rfl)
  show own_Go p e below _ (T6.setTop (mkF m 34 #[.val (.long q0), .second, .val (.long q1), .second, .val (.long q2), .second, .val (.long q3), .second, .val (.long q4), .second, .val (.int p5), .val (.ref b1), .unset, .unset, .unset] []))
  refine own_st (fun _ k => XS.aload X6.here hx rfl (hb hby at_34) rfl rfl k) ?_
  show own_Go p e below _ (T6.setTop (mkF m 36 #[.val (.long q0), .second, .val (.long q1), .second, .val (.long q2), .second, .val (.long q3), .second, .val (.long q4), .second, .val (.int p5), .val (.ref b1), .unset, .unset, .unset] [(.ref b1)]))
  refine own_st (fun _ k => XS.iconst X6.here hx rfl (hb hby at_36) k) ?_
  show own_Go p e below _ (T6.setTop (mkF m 37 #[.val (.long q0), .second, .val (.long q1), .second, .val (.long q2), .second, .val (.long q3), .second, .val (.long q4), .second, .val (.int p5), .val (.ref b1), .unset, .unset, .unset] [(.int (5 : Int32)), (.ref b1)]))
  refine own_st (fun _ k => X6.ldc2Long hx hown (mvT hZ (hw _ (List.mem_of_getElem? (i := 1) rfl))) (g := (mkF m 37 #[.val (.long q0), .second, .val (.long q1), .second, .val (.long q2), .second, .val (.long q3), .second, .val (.long q4), .second, .val (.int p5), .val (.ref b1), .unset, .unset, .unset] [(.int (5 : Int32)), (.ref b1)])) rfl (hb hby at_37) _ k) ?_
  show own_Go p e below _ (T6.setTop (mkF m 40 #[.val (.long q0), .second, .val (.long q1), .second, .val (.long q2), .second, .val (.long q3), .second, .val (.long q4), .second, .val (.int p5), .val (.ref b1), .unset, .unset, .unset] [(.long (-9223372036854775808 : Int64)), (.int (5 : Int32)), (.ref b1)]))
  obtain ⟨cl7, Ar7, qc7, S7, M7, H7, G7⟩ := V_b1
  obtain ⟨T7, h7, X7, e7, W7, st7⟩ := stJ X6 hx hZ e6 Ar7 (j := (5 : Int32)) (inb_of S7 ⟨by decide, by decide⟩) (g := (mkF m 40 #[.val (.long q0), .second, .val (.long q1), .second, .val (.long q2), .second, .val (.long q3), .second, .val (.long q4), .second, .val (.int p5), .val (.ref b1), .unset, .unset, .unset] [(.long (-9223372036854775808 : Int64)), (.int (5 : Int32)), (.ref b1)])) rfl rfl (hb hby at_40)
  refine own_st st7 ?_
  replace Z0 := Nat.le_trans Z0 (Nat.le_of_eq W7.size.symm)
  replace N0 := Fr.snoc X7 N0 g_b1
  have V_b1 : Arv Z h7 b1 k1 .long (8 : Int32) [(.long q0), (.long q1), (.long q2), (.long q3), (.long q4), (.long (-9223372036854775808 : Int64)), (.long (0 : Int64)), (.long (0 : Int64))] (.long (0 : Int64)) := Arv.set Ar7 qc7 S7 M7 H7 G7 rfl W7 5 rfl (Nat.le_of_ble_eq_true rfl)
  show own_Go p e below _ (T7.setTop (mkF m 41 #[.val (.long q0), .second, .val (.long q1), .second, .val (.long q2), .second, .val (.long q3), .second, .val (.long q4), .second, .val (.int p5), .val (.ref b1), .unset, .unset, .unset] []))
  refine own_st (fun _ k => XS.aload X7.here hx rfl (hb hby at_41) rfl rfl k) ?_
  show own_Go p e below _ (T7.setTop (mkF m 43 #[.val (.long q0), .second, .val (.long q1), .second, .val (.long q2), .second, .val (.long q3), .second, .val (.long q4), .second, .val (.int p5), .val (.ref b1), .unset, .unset, .unset] [(.ref b1)]))
  refine own_st (fun _ k => XS.bipush X7.here hx rfl (hb hby at_43) k) ?_
  show own_Go p e below _ (T7.setTop (mkF m 45 #[.val (.long q0), .second, .val (.long q1), .second, .val (.long q2), .second, .val (.long q3), .second, .val (.long q4), .second, .val (.int p5), .val (.ref b1), .unset, .unset, .unset] [(.int (6 : Int32)), (.ref b1)]))
  refine own_st (fun _ k => X7.ldc2Long hx hown (mvT hZ (hw _ (List.mem_of_getElem? (i := 2) rfl))) (g := (mkF m 45 #[.val (.long q0), .second, .val (.long q1), .second, .val (.long q2), .second, .val (.long q3), .second, .val (.long q4), .second, .val (.int p5), .val (.ref b1), .unset, .unset, .unset] [(.int (6 : Int32)), (.ref b1)])) rfl (hb hby at_45) _ k) ?_
  show own_Go p e below _ (T7.setTop (mkF m 48 #[.val (.long q0), .second, .val (.long q1), .second, .val (.long q2), .second, .val (.long q3), .second, .val (.long q4), .second, .val (.int p5), .val (.ref b1), .unset, .unset, .unset] [(.long (9223372036854775807 : Int64)), (.int (6 : Int32)), (.ref b1)]))
  obtain ⟨cl8, Ar8, qc8, S8, M8, H8, G8⟩ := V_b1
  obtain ⟨T8, h8, X8, e8, W8, st8⟩ := stJ X7 hx hZ e7 Ar8 (j := (6 : Int32)) (inb_of S8 ⟨by decide, by decide⟩) (g := (mkF m 48 #[.val (.long q0), .second, .val (.long q1), .second, .val (.long q2), .second, .val (.long q3), .second, .val (.long q4), .second, .val (.int p5), .val (.ref b1), .unset, .unset, .unset] [(.long (9223372036854775807 : Int64)), (.int (6 : Int32)), (.ref b1)])) rfl rfl (hb hby at_48)
  refine own_st st8 ?_
  replace Z0 := Nat.le_trans Z0 (Nat.le_of_eq W8.size.symm)
  replace N0 := Fr.snoc X8 N0 g_b1
  have V_b1 : Arv Z h8 b1 k1 .long (8 : Int32) [(.long q0), (.long q1), (.long q2), (.long q3), (.long q4), (.long (-9223372036854775808 : Int64)), (.long (9223372036854775807 : Int64)), (.long (0 : Int64))] (.long (0 : Int64)) := Arv.set Ar8 qc8 S8 M8 H8 G8 rfl W8 6 rfl (Nat.le_of_ble_eq_true rfl)
  show own_Go p e below _ (T8.setTop (mkF m 49 #[.val (.long q0), .second, .val (.long q1), .second, .val (.long q2), .second, .val (.long q3), .second, .val (.long q4), .second, .val (.int p5), .val (.ref b1), .unset, .unset, .unset] []))
  refine own_st (fun _ k => XS.aload X8.here hx rfl (hb hby at_49) rfl rfl k) ?_
  show own_Go p e below _ (T8.setTop (mkF m 51 #[.val (.long q0), .second, .val (.long q1), .second, .val (.long q2), .second, .val (.long q3), .second, .val (.long q4), .second, .val (.int p5), .val (.ref b1), .unset, .unset, .unset] [(.ref b1)]))
  refine own_st (fun _ k => XS.bipush X8.here hx rfl (hb hby at_51) k) ?_
  show own_Go p e below _ (T8.setTop (mkF m 53 #[.val (.long q0), .second, .val (.long q1), .second, .val (.long q2), .second, .val (.long q3), .second, .val (.long q4), .second, .val (.int p5), .val (.ref b1), .unset, .unset, .unset] [(.int (7 : Int32)), (.ref b1)]))
  refine own_st (fun _ k => XS.lconst X8.here hx rfl (hb hby at_53) k) ?_
  show own_Go p e below _ (T8.setTop (mkF m 54 #[.val (.long q0), .second, .val (.long q1), .second, .val (.long q2), .second, .val (.long q3), .second, .val (.long q4), .second, .val (.int p5), .val (.ref b1), .unset, .unset, .unset] [(.long (0 : Int64)), (.int (7 : Int32)), (.ref b1)]))
  obtain ⟨cl9, Ar9, qc9, S9, M9, H9, G9⟩ := V_b1
  obtain ⟨T9, h9, X9, e9, W9, st9⟩ := stJ X8 hx hZ e8 Ar9 (j := (7 : Int32)) (inb_of S9 ⟨by decide, by decide⟩) (g := (mkF m 54 #[.val (.long q0), .second, .val (.long q1), .second, .val (.long q2), .second, .val (.long q3), .second, .val (.long q4), .second, .val (.int p5), .val (.ref b1), .unset, .unset, .unset] [(.long (0 : Int64)), (.int (7 : Int32)), (.ref b1)])) rfl rfl (hb hby at_54)
  refine own_st st9 ?_
  replace Z0 := Nat.le_trans Z0 (Nat.le_of_eq W9.size.symm)
  replace N0 := Fr.snoc X9 N0 g_b1
  have V_b1 : Arv Z h9 b1 k1 .long (8 : Int32) [(.long q0), (.long q1), (.long q2), (.long q3), (.long q4), (.long (-9223372036854775808 : Int64)), (.long (9223372036854775807 : Int64)), (.long (0 : Int64))] (.long (0 : Int64)) := Arv.set Ar9 qc9 S9 M9 H9 G9 rfl W9 7 rfl (Nat.le_of_ble_eq_true rfl)
  show own_Go p e below _ (T9.setTop (mkF m 55 #[.val (.long q0), .second, .val (.long q1), .second, .val (.long q2), .second, .val (.long q3), .second, .val (.long q4), .second, .val (.int p5), .val (.ref b1), .unset, .unset, .unset] []))
  refine own_st (fun _ k => XS.bipush X9.here hx rfl (hb hby at_55) k) ?_
  show own_Go p e below _ (T9.setTop (mkF m 57 #[.val (.long q0), .second, .val (.long q1), .second, .val (.long q2), .second, .val (.long q3), .second, .val (.long q4), .second, .val (.int p5), .val (.ref b1), .unset, .unset, .unset] [(.int (7 : Int32))]))
  obtain ⟨T10, h10, k10, X10, e10, E10, A10, st10⟩ := newP X9 hx hZ (hw _ (List.mem_of_getElem? (i := 0) rfl)) e9 (g := (mkF m 57 #[.val (.long q0), .second, .val (.long q1), .second, .val (.long q2), .second, .val (.long q3), .second, .val (.long q4), .second, .val (.int p5), .val (.ref b1), .unset, .unset, .unset] [(.int (7 : Int32))])) rfl (hb hby at_57) rfl (by decide) (cap := 7) (by decide) (by decide) (by decide) (by decide)
  refine own_st st10 ?_
  obtain ⟨b10, g10⟩ : ∃ z, z = h9.size := ⟨_, rfl⟩
  rw [← g10] at A10 ⊢
  have g_b10 : n0 ≤ b10 := Nat.le_trans Z0 (Nat.le_of_eq g10.symm)
  have ne_b1_b10 : b1 ≠ b10 := Nat.ne_of_lt (Nat.lt_of_lt_of_le V_b1.lt (Nat.le_of_eq g10.symm))
  have ne_b10_b1 : b10 ≠ b1 := Ne.symm ne_b1_b10
  replace V_b1 := V_b1.ext E10
  replace Z0 := Nat.le_trans Z0 E10.1
  have V_b10 : Arv Z h10 b10 k10 .long (7 : Int32) [(.long (0 : Int64)), (.long (0 : Int64)), (.long (0 : Int64)), (.long (0 : Int64)), (.long (0 : Int64)), (.long (0 : Int64)), (.long (0 : Int64))] (.long (0 : Int64)) := (Arv.new A10 (by decide)).pad (pad_rep [] (.long (0 : Int64)) 7)
  show own_Go p e below _ (T10.setTop (mkF m 59 #[.val (.long q0), .second, .val (.long q1), .second, .val (.long q2), .second, .val (.long q3), .second, .val (.long q4), .second, .val (.int p5), .val (.ref b1), .unset, .unset, .unset] [(.ref b10)]))
  refine own_st (fun _ k => XS.astore X10.here hx rfl (hb hby at_59) rfl rfl (l' := #[.val (.long q0), .second, .val (.long q1), .second, .val (.long q2), .second, .val (.long q3), .second, .val (.long q4), .second, .val (.int p5), .val (.ref b1), .val (.ref b10), .unset, .unset]) rfl k) ?_
  show own_Go p e below _ (T10.setTop (mkF m 61 #[.val (.long q0), .second, .val (.long q1), .second, .val (.long q2), .second, .val (.long q3), .second, .val (.long q4), .second, .val (.int p5), .val (.ref b1), .val (.ref b10), .unset, .unset] []))
  refine own_st (fun _ k => XS.aload X10.here hx rfl (hb hby at_61) rfl rfl k) ?_
  show own_Go p e below _ (T10.setTop (mkF m 63 #[.val (.long q0), .second, .val (.long q1), .second, .val (.long q2), .second, .val (.long q3), .second, .val (.long q4), .second, .val (.int p5), .val (.ref b1), .val (.ref b10), .unset, .unset] [(.ref b10)]))
  refine own_st (fun _ k => XS.iconst X10.here hx rfl (hb hby at_63) k) ?_
  show own_Go p e below _ (T10.setTop (mkF m 64 #[.val (.long q0), .second, .val (.long q1), .second, .val (.long q2), .second, .val (.long q3), .second, .val (.long q4), .second, .val (.int p5), .val (.ref b1), .val (.ref b10), .unset, .unset] [(.int (0 : Int32)), (.ref b10)]))
  refine own_st (fun _ k => XS.aload X10.here hx rfl (hb hby at_64) rfl rfl k) ?_
  show own_Go p e below _ (T10.setTop (mkF m 66 #[.val (.long q0), .second, .val (.long q1), .second, .val (.long q2), .second, .val (.long q3), .second, .val (.long q4), .second, .val (.int p5), .val (.ref b1), .val (.ref b10), .unset, .unset] [(.ref b1), (.int (0 : Int32)), (.ref b10)]))
  refine own_st (fun _ k => XS.iload X10.here hx rfl (hb hby at_66) rfl k) ?_
  show own_Go p e below _ (T10.setTop (mkF m 68 #[.val (.long q0), .second, .val (.long q1), .second, .val (.long q2), .second, .val (.long q3), .second, .val (.long q4), .second, .val (.int p5), .val (.ref b1), .val (.ref b10), .unset, .unset] [(.int p5), (.ref b1), (.int (0 : Int32)), (.ref b10)]))
  refine own_st (fun _ k => XS.bipush X10.here hx rfl (hb hby at_68) k) ?_
  show own_Go p e below _ (T10.setTop (mkF m 70 #[.val (.long q0), .second, .val (.long q1), .second, .val (.long q2), .second, .val (.long q3), .second, .val (.long q4), .second, .val (.int p5), .val (.ref b1), .val (.ref b10), .unset, .unset] [(.int (7 : Int32)), (.int p5), (.ref b1), (.int (0 : Int32)), (.ref b10)]))
  refine own_st (fun _ k => XS.iand X10.here hx rfl (hb hby at_70) rfl k) ?_
  show own_Go p e below _ (T10.setTop (mkF m 71 #[.val (.long q0), .second, .val (.long q1), .second, .val (.long q2), .second, .val (.long q3), .second, .val (.long q4), .second, .val (.int p5), .val (.ref b1), .val (.ref b10), .unset, .unset] [(.int (p5 &&& (7 : Int32))), (.ref b1), (.int (0 : Int32)), (.ref b10)]))
  obtain ⟨cl11, v11, Ar11, hin11, hat11⟩ := own_ldJ V_b1 (j := (p5 &&& (7 : Int32))) (own_ix _)
  refine own_st (fun _ k => X10.laload hx (j := (p5 &&& (7 : Int32))) (v := (.long v11)) (by rw [e10]; exact Ar11.1) (State.isArrayOf_alike hZ.alike Ar11.2.1) Ar11.2.2 hin11 hat11 (g := (mkF m 71 #[.val (.long q0), .second, .val (.long q1), .second, .val (.long q2), .second, .val (.long q3), .second, .val (.long q4), .second, .val (.int p5), .val (.ref b1), .val (.ref b10), .unset, .unset] [(.int (p5 &&& (7 : Int32))), (.ref b1), (.int (0 : Int32)), (.ref b10)])) rfl rfl (hb hby at_71) _ k) ?_
  show own_Go p e below _ (T10.setTop (mkF m 72 #[.val (.long q0), .second, .val (.long q1), .second, .val (.long q2), .second, .val (.long q3), .second, .val (.long q4), .second, .val (.int p5), .val (.ref b1), .val (.ref b10), .unset, .unset] [(.long v11), (.int (0 : Int32)), (.ref b10)]))
  obtain ⟨cl12, Ar12, qc12, S12, M12, H12, G12⟩ := V_b10
  obtain ⟨T12, h12, X12, e12, W12, st12⟩ := stJ X10 hx hZ e10 Ar12 (j := (0 : Int32)) (inb_of S12 ⟨by decide, by decide⟩) (g := (mkF m 72 #[.val (.long q0), .second, .val (.long q1), .second, .val (.long q2), .second, .val (.long q3), .second, .val (.long q4), .second, .val (.int p5), .val (.ref b1), .val (.ref b10), .unset, .unset] [(.long v11), (.int (0 : Int32)), (.ref b10)])) rfl rfl (hb hby at_72)
  refine own_st st12 ?_
  replace V_b1 := V_b1.other W12 ne_b1_b10
  replace Z0 := Nat.le_trans Z0 (Nat.le_of_eq W12.size.symm)
  replace N0 := Fr.snoc X12 N0 g_b10
  have V_b10 : Arv Z h12 b10 k10 .long (7 : Int32) [(.long v11), (.long (0 : Int64)), (.long (0 : Int64)), (.long (0 : Int64)), (.long (0 : Int64)), (.long (0 : Int64)), (.long (0 : Int64))] (.long (0 : Int64)) := Arv.set Ar12 qc12 S12 M12 H12 G12 rfl W12 0 rfl (Nat.le_of_ble_eq_true rfl)
  show own_Go p e below _ (T12.setTop (mkF m 73 #[.val (.long q0), .second, .val (.long q1), .second, .val (.long q2), .second, .val (.long q3), .second, .val (.long q4), .second, .val (.int p5), .val (.ref b1), .val (.ref b10), .unset, .unset] []))
  refine own_st (fun _ k => XS.aload X12.here hx rfl (hb hby at_73) rfl rfl k) ?_
  show own_Go p e below _ (T12.setTop (mkF m 75 #[.val (.long q0), .second, .val (.long q1), .second, .val (.long q2), .second, .val (.long q3), .second, .val (.long q4), .second, .val (.int p5), .val (.ref b1), .val (.ref b10), .unset, .unset] [(.ref b10)]))
  refine own_st (fun _ k => XS.iconst X12.here hx rfl (hb hby at_75) k) ?_
  show own_Go p e below _ (T12.setTop (mkF m 76 #[.val (.long q0), .second, .val (.long q1), .second, .val (.long q2), .second, .val (.long q3), .second, .val (.long q4), .second, .val (.int p5), .val (.ref b1), .val (.ref b10), .unset, .unset] [(.int (1 : Int32)), (.ref b10)]))
  refine own_st (fun _ k => XS.aload X12.here hx rfl (hb hby at_76) rfl rfl k) ?_
  show own_Go p e below _ (T12.setTop (mkF m 78 #[.val (.long q0), .second, .val (.long q1), .second, .val (.long q2), .second, .val (.long q3), .second, .val (.long q4), .second, .val (.int p5), .val (.ref b1), .val (.ref b10), .unset, .unset] [(.ref b1), (.int (1 : Int32)), (.ref b10)]))
  refine own_st (fun _ k => XS.iload X12.here hx rfl (hb hby at_78) rfl k) ?_
  show own_Go p e below _ (T12.setTop (mkF m 80 #[.val (.long q0), .second, .val (.long q1), .second, .val (.long q2), .second, .val (.long q3), .second, .val (.long q4), .second, .val (.int p5), .val (.ref b1), .val (.ref b10), .unset, .unset] [(.int p5), (.ref b1), (.int (1 : Int32)), (.ref b10)]))
  refine own_st (fun _ k => XS.iconst X12.here hx rfl (hb hby at_80) k) ?_
  show own_Go p e below _ (T12.setTop (mkF m 81 #[.val (.long q0), .second, .val (.long q1), .second, .val (.long q2), .second, .val (.long q3), .second, .val (.long q4), .second, .val (.int p5), .val (.ref b1), .val (.ref b10), .unset, .unset] [(.int (3 : Int32)), (.int p5), (.ref b1), (.int (1 : Int32)), (.ref b10)]))
  refine own_st (fun _ k => XS.iushr X12.here hx rfl (hb hby at_81) rfl k) ?_
  show own_Go p e below _ (T12.setTop (mkF m 82 #[.val (.long q0), .second, .val (.long q1), .second, .val (.long q2), .second, .val (.long q3), .second, .val (.long q4), .second, .val (.int p5), .val (.ref b1), .val (.ref b10), .unset, .unset] [(.int ((p5.toUInt32 >>> ((3 : Int32) &&& 31).toUInt32).toInt32)), (.ref b1), (.int (1 : Int32)), (.ref b10)]))
  refine own_st (fun _ k => XS.bipush X12.here hx rfl (hb hby at_82) k) ?_
  show own_Go p e below _ (T12.setTop (mkF m 84 #[.val (.long q0), .second, .val (.long q1), .second, .val (.long q2), .second, .val (.long q3), .second, .val (.long q4), .second, .val (.int p5), .val (.ref b1), .val (.ref b10), .unset, .unset] [(.int (7 : Int32)), (.int ((p5.toUInt32 >>> ((3 : Int32) &&& 31).toUInt32).toInt32)), (.ref b1), (.int (1 : Int32)), (.ref b10)]))
  refine own_st (fun _ k => XS.iand X12.here hx rfl (hb hby at_84) rfl k) ?_
  show own_Go p e below _ (T12.setTop (mkF m 85 #[.val (.long q0), .second, .val (.long q1), .second, .val (.long q2), .second, .val (.long q3), .second, .val (.long q4), .second, .val (.int p5), .val (.ref b1), .val (.ref b10), .unset, .unset] [(.int (((p5.toUInt32 >>> ((3 : Int32) &&& 31).toUInt32).toInt32) &&& (7 : Int32))), (.ref b1), (.int (1 : Int32)), (.ref b10)]))
  obtain ⟨cl13, v13, Ar13, hin13, hat13⟩ := own_ldJ V_b1 (j := (((p5.toUInt32 >>> ((3 : Int32) &&& 31).toUInt32).toInt32) &&& (7 : Int32))) (own_ix _)
  refine own_st (fun _ k => X12.laload hx (j := (((p5.toUInt32 >>> ((3 : Int32) &&& 31).toUInt32).toInt32) &&& (7 : Int32))) (v := (.long v13)) (by rw [e12]; exact Ar13.1) (State.isArrayOf_alike hZ.alike Ar13.2.1) Ar13.2.2 hin13 hat13 (g := (mkF m 85 #[.val (.long q0), .second, .val (.long q1), .second, .val (.long q2), .second, .val (.long q3), .second, .val (.long q4), .second, .val (.int p5), .val (.ref b1), .val (.ref b10), .unset, .unset] [(.int (((p5.toUInt32 >>> ((3 : Int32) &&& 31).toUInt32).toInt32) &&& (7 : Int32))), (.ref b1), (.int (1 : Int32)), (.ref b10)])) rfl rfl (hb hby at_85) _ k) ?_
  show own_Go p e below _ (T12.setTop (mkF m 86 #[.val (.long q0), .second, .val (.long q1), .second, .val (.long q2), .second, .val (.long q3), .second, .val (.long q4), .second, .val (.int p5), .val (.ref b1), .val (.ref b10), .unset, .unset] [(.long v13), (.int (1 : Int32)), (.ref b10)]))
  obtain ⟨cl14, Ar14, qc14, S14, M14, H14, G14⟩ := V_b10
  obtain ⟨T14, h14, X14, e14, W14, st14⟩ := stJ X12 hx hZ e12 Ar14 (j := (1 : Int32)) (inb_of S14 ⟨by decide, by decide⟩) (g := (mkF m 86 #[.val (.long q0), .second, .val (.long q1), .second, .val (.long q2), .second, .val (.long q3), .second, .val (.long q4), .second, .val (.int p5), .val (.ref b1), .val (.ref b10), .unset, .unset] [(.long v13), (.int (1 : Int32)), (.ref b10)])) rfl rfl (hb hby at_86)
  refine own_st st14 ?_
  replace V_b1 := V_b1.other W14 ne_b1_b10
  replace Z0 := Nat.le_trans Z0 (Nat.le_of_eq W14.size.symm)
  replace N0 := Fr.snoc X14 N0 g_b10
  have V_b10 : Arv Z h14 b10 k10 .long (7 : Int32) [(.long v11), (.long v13), (.long (0 : Int64)), (.long (0 : Int64)), (.long (0 : Int64)), (.long (0 : Int64)), (.long (0 : Int64))] (.long (0 : Int64)) := Arv.set Ar14 qc14 S14 M14 H14 G14 rfl W14 1 rfl (Nat.le_of_ble_eq_true rfl)
  show own_Go p e below _ (T14.setTop (mkF m 87 #[.val (.long q0), .second, .val (.long q1), .second, .val (.long q2), .second, .val (.long q3), .second, .val (.long q4), .second, .val (.int p5), .val (.ref b1), .val (.ref b10), .unset, .unset] []))
  refine own_st (fun _ k => XS.aload X14.here hx rfl (hb hby at_87) rfl rfl k) ?_
  show own_Go p e below _ (T14.setTop (mkF m 89 #[.val (.long q0), .second, .val (.long q1), .second, .val (.long q2), .second, .val (.long q3), .second, .val (.long q4), .second, .val (.int p5), .val (.ref b1), .val (.ref b10), .unset, .unset] [(.ref b10)]))
  refine own_st (fun _ k => XS.iconst X14.here hx rfl (hb hby at_89) k) ?_
  show own_Go p e below _ (T14.setTop (mkF m 90 #[.val (.long q0), .second, .val (.long q1), .second, .val (.long q2), .second, .val (.long q3), .second, .val (.long q4), .second, .val (.int p5), .val (.ref b1), .val (.ref b10), .unset, .unset] [(.int (2 : Int32)), (.ref b10)]))
  refine own_st (fun _ k => XS.aload X14.here hx rfl (hb hby at_90) rfl rfl k) ?_
  show own_Go p e below _ (T14.setTop (mkF m 92 #[.val (.long q0), .second, .val (.long q1), .second, .val (.long q2), .second, .val (.long q3), .second, .val (.long q4), .second, .val (.int p5), .val (.ref b1), .val (.ref b10), .unset, .unset] [(.ref b1), (.int (2 : Int32)), (.ref b10)]))
  refine own_st (fun _ k => XS.iload X14.here hx rfl (hb hby at_92) rfl k) ?_
  show own_Go p e below _ (T14.setTop (mkF m 94 #[.val (.long q0), .second, .val (.long q1), .second, .val (.long q2), .second, .val (.long q3), .second, .val (.long q4), .second, .val (.int p5), .val (.ref b1), .val (.ref b10), .unset, .unset] [(.int p5), (.ref b1), (.int (2 : Int32)), (.ref b10)]))
  refine own_st (fun _ k => XS.bipush X14.here hx rfl (hb hby at_94) k) ?_
  show own_Go p e below _ (T14.setTop (mkF m 96 #[.val (.long q0), .second, .val (.long q1), .second, .val (.long q2), .second, .val (.long q3), .second, .val (.long q4), .second, .val (.int p5), .val (.ref b1), .val (.ref b10), .unset, .unset] [(.int (6 : Int32)), (.int p5), (.ref b1), (.int (2 : Int32)), (.ref b10)]))
  refine own_st (fun _ k => XS.iushr X14.here hx rfl (hb hby at_96) rfl k) ?_
  show own_Go p e below _ (T14.setTop (mkF m 97 #[.val (.long q0), .second, .val (.long q1), .second, .val (.long q2), .second, .val (.long q3), .second, .val (.long q4), .second, .val (.int p5), .val (.ref b1), .val (.ref b10), .unset, .unset] [(.int ((p5.toUInt32 >>> ((6 : Int32) &&& 31).toUInt32).toInt32)), (.ref b1), (.int (2 : Int32)), (.ref b10)]))
  refine own_st (fun _ k => XS.bipush X14.here hx rfl (hb hby at_97) k) ?_
  show own_Go p e below _ (T14.setTop (mkF m 99 #[.val (.long q0), .second, .val (.long q1), .second, .val (.long q2), .second, .val (.long q3), .second, .val (.long q4), .second, .val (.int p5), .val (.ref b1), .val (.ref b10), .unset, .unset] [(.int (7 : Int32)), (.int ((p5.toUInt32 >>> ((6 : Int32) &&& 31).toUInt32).toInt32)), (.ref b1), (.int (2 : Int32)), (.ref b10)]))
  refine own_st (fun _ k => XS.iand X14.here hx rfl (hb hby at_99) rfl k) ?_
  show own_Go p e below _ (T14.setTop (mkF m 100 #[.val (.long q0), .second, .val (.long q1), .second, .val (.long q2), .second, .val (.long q3), .second, .val (.long q4), .second, .val (.int p5), .val (.ref b1), .val (.ref b10), .unset, .unset] [(.int (((p5.toUInt32 >>> ((6 : Int32) &&& 31).toUInt32).toInt32) &&& (7 : Int32))), (.ref b1), (.int (2 : Int32)), (.ref b10)]))
  obtain ⟨cl15, v15, Ar15, hin15, hat15⟩ := own_ldJ V_b1 (j := (((p5.toUInt32 >>> ((6 : Int32) &&& 31).toUInt32).toInt32) &&& (7 : Int32))) (own_ix _)
  refine own_st (fun _ k => X14.laload hx (j := (((p5.toUInt32 >>> ((6 : Int32) &&& 31).toUInt32).toInt32) &&& (7 : Int32))) (v := (.long v15)) (by rw [e14]; exact Ar15.1) (State.isArrayOf_alike hZ.alike Ar15.2.1) Ar15.2.2 hin15 hat15 (g := (mkF m 100 #[.val (.long q0), .second, .val (.long q1), .second, .val (.long q2), .second, .val (.long q3), .second, .val (.long q4), .second, .val (.int p5), .val (.ref b1), .val (.ref b10), .unset, .unset] [(.int (((p5.toUInt32 >>> ((6 : Int32) &&& 31).toUInt32).toInt32) &&& (7 : Int32))), (.ref b1), (.int (2 : Int32)), (.ref b10)])) rfl rfl (hb hby at_100) _ k) ?_
  show own_Go p e below _ (T14.setTop (mkF m 101 #[.val (.long q0), .second, .val (.long q1), .second, .val (.long q2), .second, .val (.long q3), .second, .val (.long q4), .second, .val (.int p5), .val (.ref b1), .val (.ref b10), .unset, .unset] [(.long v15), (.int (2 : Int32)), (.ref b10)]))
  obtain ⟨cl16, Ar16, qc16, S16, M16, H16, G16⟩ := V_b10
  obtain ⟨T16, h16, X16, e16, W16, st16⟩ := stJ X14 hx hZ e14 Ar16 (j := (2 : Int32)) (inb_of S16 ⟨by decide, by decide⟩) (g := (mkF m 101 #[.val (.long q0), .second, .val (.long q1), .second, .val (.long q2), .second, .val (.long q3), .second, .val (.long q4), .second, .val (.int p5), .val (.ref b1), .val (.ref b10), .unset, .unset] [(.long v15), (.int (2 : Int32)), (.ref b10)])) rfl rfl (hb hby at_101)
  refine own_st st16 ?_
  replace V_b1 := V_b1.other W16 ne_b1_b10
  replace Z0 := Nat.le_trans Z0 (Nat.le_of_eq W16.size.symm)
  replace N0 := Fr.snoc X16 N0 g_b10
  have V_b10 : Arv Z h16 b10 k10 .long (7 : Int32) [(.long v11), (.long v13), (.long v15), (.long (0 : Int64)), (.long (0 : Int64)), (.long (0 : Int64)), (.long (0 : Int64))] (.long (0 : Int64)) := Arv.set Ar16 qc16 S16 M16 H16 G16 rfl W16 2 rfl (Nat.le_of_ble_eq_true rfl)
  show own_Go p e below _ (T16.setTop (mkF m 102 #[.val (.long q0), .second, .val (.long q1), .second, .val (.long q2), .second, .val (.long q3), .second, .val (.long q4), .second, .val (.int p5), .val (.ref b1), .val (.ref b10), .unset, .unset] []))
  refine own_st (fun _ k => XS.aload X16.here hx rfl (hb hby at_102) rfl rfl k) ?_
  show own_Go p e below _ (T16.setTop (mkF m 104 #[.val (.long q0), .second, .val (.long q1), .second, .val (.long q2), .second, .val (.long q3), .second, .val (.long q4), .second, .val (.int p5), .val (.ref b1), .val (.ref b10), .unset, .unset] [(.ref b10)]))
  refine own_st (fun _ k => XS.iconst X16.here hx rfl (hb hby at_104) k) ?_
  show own_Go p e below _ (T16.setTop (mkF m 105 #[.val (.long q0), .second, .val (.long q1), .second, .val (.long q2), .second, .val (.long q3), .second, .val (.long q4), .second, .val (.int p5), .val (.ref b1), .val (.ref b10), .unset, .unset] [(.int (3 : Int32)), (.ref b10)]))
  refine own_st (fun _ k => XS.aload X16.here hx rfl (hb hby at_105) rfl rfl k) ?_
  show own_Go p e below _ (T16.setTop (mkF m 107 #[.val (.long q0), .second, .val (.long q1), .second, .val (.long q2), .second, .val (.long q3), .second, .val (.long q4), .second, .val (.int p5), .val (.ref b1), .val (.ref b10), .unset, .unset] [(.ref b1), (.int (3 : Int32)), (.ref b10)]))
  refine own_st (fun _ k => XS.iload X16.here hx rfl (hb hby at_107) rfl k) ?_
  show own_Go p e below _ (T16.setTop (mkF m 109 #[.val (.long q0), .second, .val (.long q1), .second, .val (.long q2), .second, .val (.long q3), .second, .val (.long q4), .second, .val (.int p5), .val (.ref b1), .val (.ref b10), .unset, .unset] [(.int p5), (.ref b1), (.int (3 : Int32)), (.ref b10)]))
  refine own_st (fun _ k => XS.bipush X16.here hx rfl (hb hby at_109) k) ?_
  show own_Go p e below _ (T16.setTop (mkF m 111 #[.val (.long q0), .second, .val (.long q1), .second, .val (.long q2), .second, .val (.long q3), .second, .val (.long q4), .second, .val (.int p5), .val (.ref b1), .val (.ref b10), .unset, .unset] [(.int (9 : Int32)), (.int p5), (.ref b1), (.int (3 : Int32)), (.ref b10)]))
  refine own_st (fun _ k => XS.iushr X16.here hx rfl (hb hby at_111) rfl k) ?_
  show own_Go p e below _ (T16.setTop (mkF m 112 #[.val (.long q0), .second, .val (.long q1), .second, .val (.long q2), .second, .val (.long q3), .second, .val (.long q4), .second, .val (.int p5), .val (.ref b1), .val (.ref b10), .unset, .unset] [(.int ((p5.toUInt32 >>> ((9 : Int32) &&& 31).toUInt32).toInt32)), (.ref b1), (.int (3 : Int32)), (.ref b10)]))
  refine own_st (fun _ k => XS.bipush X16.here hx rfl (hb hby at_112) k) ?_
  show own_Go p e below _ (T16.setTop (mkF m 114 #[.val (.long q0), .second, .val (.long q1), .second, .val (.long q2), .second, .val (.long q3), .second, .val (.long q4), .second, .val (.int p5), .val (.ref b1), .val (.ref b10), .unset, .unset] [(.int (7 : Int32)), (.int ((p5.toUInt32 >>> ((9 : Int32) &&& 31).toUInt32).toInt32)), (.ref b1), (.int (3 : Int32)), (.ref b10)]))
  refine own_st (fun _ k => XS.iand X16.here hx rfl (hb hby at_114) rfl k) ?_
  show own_Go p e below _ (T16.setTop (mkF m 115 #[.val (.long q0), .second, .val (.long q1), .second, .val (.long q2), .second, .val (.long q3), .second, .val (.long q4), .second, .val (.int p5), .val (.ref b1), .val (.ref b10), .unset, .unset] [(.int (((p5.toUInt32 >>> ((9 : Int32) &&& 31).toUInt32).toInt32) &&& (7 : Int32))), (.ref b1), (.int (3 : Int32)), (.ref b10)]))
  obtain ⟨cl17, v17, Ar17, hin17, hat17⟩ := own_ldJ V_b1 (j := (((p5.toUInt32 >>> ((9 : Int32) &&& 31).toUInt32).toInt32) &&& (7 : Int32))) (own_ix _)
  refine own_st (fun _ k => X16.laload hx (j := (((p5.toUInt32 >>> ((9 : Int32) &&& 31).toUInt32).toInt32) &&& (7 : Int32))) (v := (.long v17)) (by rw [e16]; exact Ar17.1) (State.isArrayOf_alike hZ.alike Ar17.2.1) Ar17.2.2 hin17 hat17 (g := (mkF m 115 #[.val (.long q0), .second, .val (.long q1), .second, .val (.long q2), .second, .val (.long q3), .second, .val (.long q4), .second, .val (.int p5), .val (.ref b1), .val (.ref b10), .unset, .unset] [(.int (((p5.toUInt32 >>> ((9 : Int32) &&& 31).toUInt32).toInt32) &&& (7 : Int32))), (.ref b1), (.int (3 : Int32)), (.ref b10)])) rfl rfl (hb hby at_115) _ k) ?_
  show own_Go p e below _ (T16.setTop (mkF m 116 #[.val (.long q0), .second, .val (.long q1), .second, .val (.long q2), .second, .val (.long q3), .second, .val (.long q4), .second, .val (.int p5), .val (.ref b1), .val (.ref b10), .unset, .unset] [(.long v17), (.int (3 : Int32)), (.ref b10)]))
  obtain ⟨cl18, Ar18, qc18, S18, M18, H18, G18⟩ := V_b10
  obtain ⟨T18, h18, X18, e18, W18, st18⟩ := stJ X16 hx hZ e16 Ar18 (j := (3 : Int32)) (inb_of S18 ⟨by decide, by decide⟩) (g := (mkF m 116 #[.val (.long q0), .second, .val (.long q1), .second, .val (.long q2), .second, .val (.long q3), .second, .val (.long q4), .second, .val (.int p5), .val (.ref b1), .val (.ref b10), .unset, .unset] [(.long v17), (.int (3 : Int32)), (.ref b10)])) rfl rfl (hb hby at_116)
  refine own_st st18 ?_
  replace V_b1 := V_b1.other W18 ne_b1_b10
  replace Z0 := Nat.le_trans Z0 (Nat.le_of_eq W18.size.symm)
  replace N0 := Fr.snoc X18 N0 g_b10
  have V_b10 : Arv Z h18 b10 k10 .long (7 : Int32) [(.long v11), (.long v13), (.long v15), (.long v17), (.long (0 : Int64)), (.long (0 : Int64)), (.long (0 : Int64))] (.long (0 : Int64)) := Arv.set Ar18 qc18 S18 M18 H18 G18 rfl W18 3 rfl (Nat.le_of_ble_eq_true rfl)
  show own_Go p e below _ (T18.setTop (mkF m 117 #[.val (.long q0), .second, .val (.long q1), .second, .val (.long q2), .second, .val (.long q3), .second, .val (.long q4), .second, .val (.int p5), .val (.ref b1), .val (.ref b10), .unset, .unset] []))
  refine own_st (fun _ k => XS.aload X18.here hx rfl (hb hby at_117) rfl rfl k) ?_
  show own_Go p e below _ (T18.setTop (mkF m 119 #[.val (.long q0), .second, .val (.long q1), .second, .val (.long q2), .second, .val (.long q3), .second, .val (.long q4), .second, .val (.int p5), .val (.ref b1), .val (.ref b10), .unset, .unset] [(.ref b10)]))
  refine own_st (fun _ k => XS.iconst X18.here hx rfl (hb hby at_119) k) ?_
  show own_Go p e below _ (T18.setTop (mkF m 120 #[.val (.long q0), .second, .val (.long q1), .second, .val (.long q2), .second, .val (.long q3), .second, .val (.long q4), .second, .val (.int p5), .val (.ref b1), .val (.ref b10), .unset, .unset] [(.int (4 : Int32)), (.ref b10)]))
  refine own_st (fun _ k => XS.aload X18.here hx rfl (hb hby at_120) rfl rfl k) ?_
  show own_Go p e below _ (T18.setTop (mkF m 122 #[.val (.long q0), .second, .val (.long q1), .second, .val (.long q2), .second, .val (.long q3), .second, .val (.long q4), .second, .val (.int p5), .val (.ref b1), .val (.ref b10), .unset, .unset] [(.ref b1), (.int (4 : Int32)), (.ref b10)]))
  refine own_st (fun _ k => XS.iload X18.here hx rfl (hb hby at_122) rfl k) ?_
  show own_Go p e below _ (T18.setTop (mkF m 124 #[.val (.long q0), .second, .val (.long q1), .second, .val (.long q2), .second, .val (.long q3), .second, .val (.long q4), .second, .val (.int p5), .val (.ref b1), .val (.ref b10), .unset, .unset] [(.int p5), (.ref b1), (.int (4 : Int32)), (.ref b10)]))
  refine own_st (fun _ k => XS.bipush X18.here hx rfl (hb hby at_124) k) ?_
  show own_Go p e below _ (T18.setTop (mkF m 126 #[.val (.long q0), .second, .val (.long q1), .second, .val (.long q2), .second, .val (.long q3), .second, .val (.long q4), .second, .val (.int p5), .val (.ref b1), .val (.ref b10), .unset, .unset] [(.int (12 : Int32)), (.int p5), (.ref b1), (.int (4 : Int32)), (.ref b10)]))
  refine own_st (fun _ k => XS.iushr X18.here hx rfl (hb hby at_126) rfl k) ?_
  show own_Go p e below _ (T18.setTop (mkF m 127 #[.val (.long q0), .second, .val (.long q1), .second, .val (.long q2), .second, .val (.long q3), .second, .val (.long q4), .second, .val (.int p5), .val (.ref b1), .val (.ref b10), .unset, .unset] [(.int ((p5.toUInt32 >>> ((12 : Int32) &&& 31).toUInt32).toInt32)), (.ref b1), (.int (4 : Int32)), (.ref b10)]))
  refine own_st (fun _ k => XS.bipush X18.here hx rfl (hb hby at_127) k) ?_
  show own_Go p e below _ (T18.setTop (mkF m 129 #[.val (.long q0), .second, .val (.long q1), .second, .val (.long q2), .second, .val (.long q3), .second, .val (.long q4), .second, .val (.int p5), .val (.ref b1), .val (.ref b10), .unset, .unset] [(.int (7 : Int32)), (.int ((p5.toUInt32 >>> ((12 : Int32) &&& 31).toUInt32).toInt32)), (.ref b1), (.int (4 : Int32)), (.ref b10)]))
  refine own_st (fun _ k => XS.iand X18.here hx rfl (hb hby at_129) rfl k) ?_
  show own_Go p e below _ (T18.setTop (mkF m 130 #[.val (.long q0), .second, .val (.long q1), .second, .val (.long q2), .second, .val (.long q3), .second, .val (.long q4), .second, .val (.int p5), .val (.ref b1), .val (.ref b10), .unset, .unset] [(.int (((p5.toUInt32 >>> ((12 : Int32) &&& 31).toUInt32).toInt32) &&& (7 : Int32))), (.ref b1), (.int (4 : Int32)), (.ref b10)]))
  obtain ⟨cl19, v19, Ar19, hin19, hat19⟩ := own_ldJ V_b1 (j := (((p5.toUInt32 >>> ((12 : Int32) &&& 31).toUInt32).toInt32) &&& (7 : Int32))) (own_ix _)
  refine own_st (fun _ k => X18.laload hx (j := (((p5.toUInt32 >>> ((12 : Int32) &&& 31).toUInt32).toInt32) &&& (7 : Int32))) (v := (.long v19)) (by rw [e18]; exact Ar19.1) (State.isArrayOf_alike hZ.alike Ar19.2.1) Ar19.2.2 hin19 hat19 (g := (mkF m 130 #[.val (.long q0), .second, .val (.long q1), .second, .val (.long q2), .second, .val (.long q3), .second, .val (.long q4), .second, .val (.int p5), .val (.ref b1), .val (.ref b10), .unset, .unset] [(.int (((p5.toUInt32 >>> ((12 : Int32) &&& 31).toUInt32).toInt32) &&& (7 : Int32))), (.ref b1), (.int (4 : Int32)), (.ref b10)])) rfl rfl (hb hby at_130) _ k) ?_
  show own_Go p e below _ (T18.setTop (mkF m 131 #[.val (.long q0), .second, .val (.long q1), .second, .val (.long q2), .second, .val (.long q3), .second, .val (.long q4), .second, .val (.int p5), .val (.ref b1), .val (.ref b10), .unset, .unset] [(.long v19), (.int (4 : Int32)), (.ref b10)]))
  obtain ⟨cl20, Ar20, qc20, S20, M20, H20, G20⟩ := V_b10
  obtain ⟨T20, h20, X20, e20, W20, st20⟩ := stJ X18 hx hZ e18 Ar20 (j := (4 : Int32)) (inb_of S20 ⟨by decide, by decide⟩) (g := (mkF m 131 #[.val (.long q0), .second, .val (.long q1), .second, .val (.long q2), .second, .val (.long q3), .second, .val (.long q4), .second, .val (.int p5), .val (.ref b1), .val (.ref b10), .unset, .unset] [(.long v19), (.int (4 : Int32)), (.ref b10)])) rfl rfl (hb hby at_131)
  refine own_st st20 ?_
  replace V_b1 := V_b1.other W20 ne_b1_b10
  replace Z0 := Nat.le_trans Z0 (Nat.le_of_eq W20.size.symm)
  replace N0 := Fr.snoc X20 N0 g_b10
  have V_b10 : Arv Z h20 b10 k10 .long (7 : Int32) [(.long v11), (.long v13), (.long v15), (.long v17), (.long v19), (.long (0 : Int64)), (.long (0 : Int64))] (.long (0 : Int64)) := Arv.set Ar20 qc20 S20 M20 H20 G20 rfl W20 4 rfl (Nat.le_of_ble_eq_true rfl)
  show own_Go p e below _ (T20.setTop (mkF m 132 #[.val (.long q0), .second, .val (.long q1), .second, .val (.long q2), .second, .val (.long q3), .second, .val (.long q4), .second, .val (.int p5), .val (.ref b1), .val (.ref b10), .unset, .unset] []))
  refine own_st (fun _ k => XS.aload X20.here hx rfl (hb hby at_132) rfl rfl k) ?_
  show own_Go p e below _ (T20.setTop (mkF m 134 #[.val (.long q0), .second, .val (.long q1), .second, .val (.long q2), .second, .val (.long q3), .second, .val (.long q4), .second, .val (.int p5), .val (.ref b1), .val (.ref b10), .unset, .unset] [(.ref b10)]))
  refine own_st (fun _ k => XS.iconst X20.here hx rfl (hb hby at_134) k) ?_
  show own_Go p e below _ (T20.setTop (mkF m 135 #[.val (.long q0), .second, .val (.long q1), .second, .val (.long q2), .second, .val (.long q3), .second, .val (.long q4), .second, .val (.int p5), .val (.ref b1), .val (.ref b10), .unset, .unset] [(.int (5 : Int32)), (.ref b10)]))
  refine own_st (fun _ k => XS.aload X20.here hx rfl (hb hby at_135) rfl rfl k) ?_
  show own_Go p e below _ (T20.setTop (mkF m 137 #[.val (.long q0), .second, .val (.long q1), .second, .val (.long q2), .second, .val (.long q3), .second, .val (.long q4), .second, .val (.int p5), .val (.ref b1), .val (.ref b10), .unset, .unset] [(.ref b1), (.int (5 : Int32)), (.ref b10)]))
  refine own_st (fun _ k => XS.iload X20.here hx rfl (hb hby at_137) rfl k) ?_
  show own_Go p e below _ (T20.setTop (mkF m 139 #[.val (.long q0), .second, .val (.long q1), .second, .val (.long q2), .second, .val (.long q3), .second, .val (.long q4), .second, .val (.int p5), .val (.ref b1), .val (.ref b10), .unset, .unset] [(.int p5), (.ref b1), (.int (5 : Int32)), (.ref b10)]))
  refine own_st (fun _ k => XS.bipush X20.here hx rfl (hb hby at_139) k) ?_
  show own_Go p e below _ (T20.setTop (mkF m 141 #[.val (.long q0), .second, .val (.long q1), .second, .val (.long q2), .second, .val (.long q3), .second, .val (.long q4), .second, .val (.int p5), .val (.ref b1), .val (.ref b10), .unset, .unset] [(.int (15 : Int32)), (.int p5), (.ref b1), (.int (5 : Int32)), (.ref b10)]))
  refine own_st (fun _ k => XS.iushr X20.here hx rfl (hb hby at_141) rfl k) ?_
  show own_Go p e below _ (T20.setTop (mkF m 142 #[.val (.long q0), .second, .val (.long q1), .second, .val (.long q2), .second, .val (.long q3), .second, .val (.long q4), .second, .val (.int p5), .val (.ref b1), .val (.ref b10), .unset, .unset] [(.int ((p5.toUInt32 >>> ((15 : Int32) &&& 31).toUInt32).toInt32)), (.ref b1), (.int (5 : Int32)), (.ref b10)]))
  refine own_st (fun _ k => XS.bipush X20.here hx rfl (hb hby at_142) k) ?_
  show own_Go p e below _ (T20.setTop (mkF m 144 #[.val (.long q0), .second, .val (.long q1), .second, .val (.long q2), .second, .val (.long q3), .second, .val (.long q4), .second, .val (.int p5), .val (.ref b1), .val (.ref b10), .unset, .unset] [(.int (7 : Int32)), (.int ((p5.toUInt32 >>> ((15 : Int32) &&& 31).toUInt32).toInt32)), (.ref b1), (.int (5 : Int32)), (.ref b10)]))
  refine own_st (fun _ k => XS.iand X20.here hx rfl (hb hby at_144) rfl k) ?_
  show own_Go p e below _ (T20.setTop (mkF m 145 #[.val (.long q0), .second, .val (.long q1), .second, .val (.long q2), .second, .val (.long q3), .second, .val (.long q4), .second, .val (.int p5), .val (.ref b1), .val (.ref b10), .unset, .unset] [(.int (((p5.toUInt32 >>> ((15 : Int32) &&& 31).toUInt32).toInt32) &&& (7 : Int32))), (.ref b1), (.int (5 : Int32)), (.ref b10)]))
  obtain ⟨cl21, v21, Ar21, hin21, hat21⟩ := own_ldJ V_b1 (j := (((p5.toUInt32 >>> ((15 : Int32) &&& 31).toUInt32).toInt32) &&& (7 : Int32))) (own_ix _)
  refine own_st (fun _ k => X20.laload hx (j := (((p5.toUInt32 >>> ((15 : Int32) &&& 31).toUInt32).toInt32) &&& (7 : Int32))) (v := (.long v21)) (by rw [e20]; exact Ar21.1) (State.isArrayOf_alike hZ.alike Ar21.2.1) Ar21.2.2 hin21 hat21 (g := (mkF m 145 #[.val (.long q0), .second, .val (.long q1), .second, .val (.long q2), .second, .val (.long q3), .second, .val (.long q4), .second, .val (.int p5), .val (.ref b1), .val (.ref b10), .unset, .unset] [(.int (((p5.toUInt32 >>> ((15 : Int32) &&& 31).toUInt32).toInt32) &&& (7 : Int32))), (.ref b1), (.int (5 : Int32)), (.ref b10)])) rfl rfl (hb hby at_145) _ k) ?_
  show own_Go p e below _ (T20.setTop (mkF m 146 #[.val (.long q0), .second, .val (.long q1), .second, .val (.long q2), .second, .val (.long q3), .second, .val (.long q4), .second, .val (.int p5), .val (.ref b1), .val (.ref b10), .unset, .unset] [(.long v21), (.int (5 : Int32)), (.ref b10)]))
  obtain ⟨cl22, Ar22, qc22, S22, M22, H22, G22⟩ := V_b10
  obtain ⟨T22, h22, X22, e22, W22, st22⟩ := stJ X20 hx hZ e20 Ar22 (j := (5 : Int32)) (inb_of S22 ⟨by decide, by decide⟩) (g := (mkF m 146 #[.val (.long q0), .second, .val (.long q1), .second, .val (.long q2), .second, .val (.long q3), .second, .val (.long q4), .second, .val (.int p5), .val (.ref b1), .val (.ref b10), .unset, .unset] [(.long v21), (.int (5 : Int32)), (.ref b10)])) rfl rfl (hb hby at_146)
  refine own_st st22 ?_
  replace V_b1 := V_b1.other W22 ne_b1_b10
  replace Z0 := Nat.le_trans Z0 (Nat.le_of_eq W22.size.symm)
  replace N0 := Fr.snoc X22 N0 g_b10
  have V_b10 : Arv Z h22 b10 k10 .long (7 : Int32) [(.long v11), (.long v13), (.long v15), (.long v17), (.long v19), (.long v21), (.long (0 : Int64))] (.long (0 : Int64)) := Arv.set Ar22 qc22 S22 M22 H22 G22 rfl W22 5 rfl (Nat.le_of_ble_eq_true rfl)
  show own_Go p e below _ (T22.setTop (mkF m 147 #[.val (.long q0), .second, .val (.long q1), .second, .val (.long q2), .second, .val (.long q3), .second, .val (.long q4), .second, .val (.int p5), .val (.ref b1), .val (.ref b10), .unset, .unset] []))
  refine own_st (fun _ k => XS.aload X22.here hx rfl (hb hby at_147) rfl rfl k) ?_
  show own_Go p e below _ (T22.setTop (mkF m 149 #[.val (.long q0), .second, .val (.long q1), .second, .val (.long q2), .second, .val (.long q3), .second, .val (.long q4), .second, .val (.int p5), .val (.ref b1), .val (.ref b10), .unset, .unset] [(.ref b10)]))
  refine own_st (fun _ k => XS.bipush X22.here hx rfl (hb hby at_149) k) ?_
  show own_Go p e below _ (T22.setTop (mkF m 151 #[.val (.long q0), .second, .val (.long q1), .second, .val (.long q2), .second, .val (.long q3), .second, .val (.long q4), .second, .val (.int p5), .val (.ref b1), .val (.ref b10), .unset, .unset] [(.int (6 : Int32)), (.ref b10)]))
  refine own_st (fun _ k => XS.aload X22.here hx rfl (hb hby at_151) rfl rfl k) ?_
  show own_Go p e below _ (T22.setTop (mkF m 153 #[.val (.long q0), .second, .val (.long q1), .second, .val (.long q2), .second, .val (.long q3), .second, .val (.long q4), .second, .val (.int p5), .val (.ref b1), .val (.ref b10), .unset, .unset] [(.ref b1), (.int (6 : Int32)), (.ref b10)]))
  refine own_st (fun _ k => XS.iload X22.here hx rfl (hb hby at_153) rfl k) ?_
  show own_Go p e below _ (T22.setTop (mkF m 155 #[.val (.long q0), .second, .val (.long q1), .second, .val (.long q2), .second, .val (.long q3), .second, .val (.long q4), .second, .val (.int p5), .val (.ref b1), .val (.ref b10), .unset, .unset] [(.int p5), (.ref b1), (.int (6 : Int32)), (.ref b10)]))
  refine own_st (fun _ k => XS.bipush X22.here hx rfl (hb hby at_155) k) ?_
  show own_Go p e below _ (T22.setTop (mkF m 157 #[.val (.long q0), .second, .val (.long q1), .second, .val (.long q2), .second, .val (.long q3), .second, .val (.long q4), .second, .val (.int p5), .val (.ref b1), .val (.ref b10), .unset, .unset] [(.int (18 : Int32)), (.int p5), (.ref b1), (.int (6 : Int32)), (.ref b10)]))
  refine own_st (fun _ k => XS.iushr X22.here hx rfl (hb hby at_157) rfl k) ?_
  show own_Go p e below _ (T22.setTop (mkF m 158 #[.val (.long q0), .second, .val (.long q1), .second, .val (.long q2), .second, .val (.long q3), .second, .val (.long q4), .second, .val (.int p5), .val (.ref b1), .val (.ref b10), .unset, .unset] [(.int ((p5.toUInt32 >>> ((18 : Int32) &&& 31).toUInt32).toInt32)), (.ref b1), (.int (6 : Int32)), (.ref b10)]))
  refine own_st (fun _ k => XS.bipush X22.here hx rfl (hb hby at_158) k) ?_
  show own_Go p e below _ (T22.setTop (mkF m 160 #[.val (.long q0), .second, .val (.long q1), .second, .val (.long q2), .second, .val (.long q3), .second, .val (.long q4), .second, .val (.int p5), .val (.ref b1), .val (.ref b10), .unset, .unset] [(.int (7 : Int32)), (.int ((p5.toUInt32 >>> ((18 : Int32) &&& 31).toUInt32).toInt32)), (.ref b1), (.int (6 : Int32)), (.ref b10)]))
  refine own_st (fun _ k => XS.iand X22.here hx rfl (hb hby at_160) rfl k) ?_
  show own_Go p e below _ (T22.setTop (mkF m 161 #[.val (.long q0), .second, .val (.long q1), .second, .val (.long q2), .second, .val (.long q3), .second, .val (.long q4), .second, .val (.int p5), .val (.ref b1), .val (.ref b10), .unset, .unset] [(.int (((p5.toUInt32 >>> ((18 : Int32) &&& 31).toUInt32).toInt32) &&& (7 : Int32))), (.ref b1), (.int (6 : Int32)), (.ref b10)]))
  obtain ⟨cl23, v23, Ar23, hin23, hat23⟩ := own_ldJ V_b1 (j := (((p5.toUInt32 >>> ((18 : Int32) &&& 31).toUInt32).toInt32) &&& (7 : Int32))) (own_ix _)
  refine own_st (fun _ k => X22.laload hx (j := (((p5.toUInt32 >>> ((18 : Int32) &&& 31).toUInt32).toInt32) &&& (7 : Int32))) (v := (.long v23)) (by rw [e22]; exact Ar23.1) (State.isArrayOf_alike hZ.alike Ar23.2.1) Ar23.2.2 hin23 hat23 (g := (mkF m 161 #[.val (.long q0), .second, .val (.long q1), .second, .val (.long q2), .second, .val (.long q3), .second, .val (.long q4), .second, .val (.int p5), .val (.ref b1), .val (.ref b10), .unset, .unset] [(.int (((p5.toUInt32 >>> ((18 : Int32) &&& 31).toUInt32).toInt32) &&& (7 : Int32))), (.ref b1), (.int (6 : Int32)), (.ref b10)])) rfl rfl (hb hby at_161) _ k) ?_
  show own_Go p e below _ (T22.setTop (mkF m 162 #[.val (.long q0), .second, .val (.long q1), .second, .val (.long q2), .second, .val (.long q3), .second, .val (.long q4), .second, .val (.int p5), .val (.ref b1), .val (.ref b10), .unset, .unset] [(.long v23), (.int (6 : Int32)), (.ref b10)]))
  obtain ⟨cl24, Ar24, qc24, S24, M24, H24, G24⟩ := V_b10
  obtain ⟨T24, h24, X24, e24, W24, st24⟩ := stJ X22 hx hZ e22 Ar24 (j := (6 : Int32)) (inb_of S24 ⟨by decide, by decide⟩) (g := (mkF m 162 #[.val (.long q0), .second, .val (.long q1), .second, .val (.long q2), .second, .val (.long q3), .second, .val (.long q4), .second, .val (.int p5), .val (.ref b1), .val (.ref b10), .unset, .unset] [(.long v23), (.int (6 : Int32)), (.ref b10)])) rfl rfl (hb hby at_162)
  refine own_st st24 ?_
  replace V_b1 := V_b1.other W24 ne_b1_b10
  replace Z0 := Nat.le_trans Z0 (Nat.le_of_eq W24.size.symm)
  replace N0 := Fr.snoc X24 N0 g_b10
  have V_b10 : Arv Z h24 b10 k10 .long (7 : Int32) [(.long v11), (.long v13), (.long v15), (.long v17), (.long v19), (.long v21), (.long v23)] (.long (0 : Int64)) := Arv.set Ar24 qc24 S24 M24 H24 G24 rfl W24 6 rfl (Nat.le_of_ble_eq_true rfl)
  show own_Go p e below _ (T24.setTop (mkF m 163 #[.val (.long q0), .second, .val (.long q1), .second, .val (.long q2), .second, .val (.long q3), .second, .val (.long q4), .second, .val (.int p5), .val (.ref b1), .val (.ref b10), .unset, .unset] []))
  refine own_st (fun _ k => XS.aload X24.here hx rfl (hb hby at_163) rfl rfl k) ?_
  show own_Go p e below _ (T24.setTop (mkF m 165 #[.val (.long q0), .second, .val (.long q1), .second, .val (.long q2), .second, .val (.long q3), .second, .val (.long q4), .second, .val (.int p5), .val (.ref b1), .val (.ref b10), .unset, .unset] [(.ref b10)]))
  obtain ⟨ff, hff⟩ : ∃ z : Nat → Int64, z = (fun j => ([v11, v13, v15, v17, v19, v21, v23] : List Int64).getD j 0) := ⟨_, rfl⟩
  have Vff : Arv Z h24 b10 k10 .long (7 : Int32) [(.long (ff 0)), (.long (ff 1)), (.long (ff 2)), (.long (ff 3)), (.long (ff 4)), (.long (ff 5)), (.long (ff 6))] (.long (0 : Int64)) := by rw [hff]; exact V_b10
  obtain ⟨ok1, ok2⟩ := own_bs_ok ff 6 6 (by decide) (by decide) (fun j h1 h2 => ⟨fun q => absurd q (by omega), fun q => absurd q (by omega)⟩)
  obtain ⟨bb, hbb⟩ : ∃ z, z = own_bs ff 6 6 := ⟨_, rfl⟩
  rw [← hbb] at ok1 ok2
  obtain ⟨rr, hrr⟩ : ∃ z, z = Int32.ofNat (own_bs ff 6 6 + 6) := ⟨_, rfl⟩
  have hr6 : rr.toInt = ((bb + 6 : Nat) : Int) := by rw [hrr, ← hbb, Int32.toInt_ofNat_of_lt (by omega)]
  have hm := own_sub6 hr6
  obtain ⟨_, T25, _, X25, ⟨rfl, rfl, e25⟩, st25⟩ := own_callS X24 hx hZ (y := (⟨"com/example/stratum_codecs/stratumcodecs/Blocks", "cheapestShift", "([J)I"⟩ : MethodName)) (argsL := [(.ref b10)]) (rest := []) (W := 0) (g := (mkF m 165 #[.val (.long q0), .second, .val (.long q1), .second, .val (.long q2), .second, .val (.long q3), .second, .val (.long q4), .second, .val (.int p5), .val (.ref b1), .val (.ref b10), .unset, .unset] [(.ref b10)])) (rm1 l Z tA hw b10 k10 ff h24 Vff) hown (hw _ (List.mem_of_getElem? (i := 3) rfl)) (hw _ (List.mem_of_getElem? (i := 4) rfl)) (hw _ (List.mem_of_getElem? (i := 5) rfl)) (hw _ (List.mem_of_getElem? (i := 6) rfl)) (by decide) e24 rfl (by rw [hml]; rfl) pd_0 rfl rfl (by show 2 * 0 + _ ≤ _; exact Nat.le_of_eq rfl) (hb hby at_165) (by decide) (by decide) (by decide) (by decide)
  replace X25 := own_flat X25
  refine own_st st25 ?_
  show own_Go p e below _ (T25.setTop (mkF m 168 #[.val (.long q0), .second, .val (.long q1), .second, .val (.long q2), .second, .val (.long q3), .second, .val (.long q4), .second, .val (.int p5), .val (.ref b1), .val (.ref b10), .unset, .unset] [(.int (Int32.ofNat (own_bs ff 6 6 + 6)))]))
  rw [← hrr]
  show own_Go p e below _ (T25.setTop (mkF m 168 #[.val (.long q0), .second, .val (.long q1), .second, .val (.long q2), .second, .val (.long q3), .second, .val (.long q4), .second, .val (.int p5), .val (.ref b1), .val (.ref b10), .unset, .unset] [(.int rr)]))
  refine own_st (fun _ k => XS.istore X25.here hx rfl (hb hby at_168) rfl (l' := #[.val (.long q0), .second, .val (.long q1), .second, .val (.long q2), .second, .val (.long q3), .second, .val (.long q4), .second, .val (.int p5), .val (.ref b1), .val (.ref b10), .val (.int rr), .unset]) rfl k) ?_
  show own_Go p e below _ (T25.setTop (mkF m 170 #[.val (.long q0), .second, .val (.long q1), .second, .val (.long q2), .second, .val (.long q3), .second, .val (.long q4), .second, .val (.int p5), .val (.ref b1), .val (.ref b10), .val (.int rr), .unset] []))
  refine own_st (fun _ k => XS.iload X25.here hx rfl (hb hby at_170) rfl k) ?_
  show own_Go p e below _ (T25.setTop (mkF m 172 #[.val (.long q0), .second, .val (.long q1), .second, .val (.long q2), .second, .val (.long q3), .second, .val (.long q4), .second, .val (.int p5), .val (.ref b1), .val (.ref b10), .val (.int rr), .unset] [(.int rr)]))
  refine own_st (fun _ k => XS.bipush X25.here hx rfl (hb hby at_172) k) ?_
  show own_Go p e below _ (T25.setTop (mkF m 174 #[.val (.long q0), .second, .val (.long q1), .second, .val (.long q2), .second, .val (.long q3), .second, .val (.long q4), .second, .val (.int p5), .val (.ref b1), .val (.ref b10), .val (.int rr), .unset] [(.int (6 : Int32)), (.int rr)]))
  refine own_st (fun _ k => XS.icmpNo X25.here hx rfl (hb hby at_174) rfl ((own_i2 _ _ _).trans (own_no ((own_lo hr6) : ¬ (rr < (6 : Int32))))) k) ?_
  show own_Go p e below _ (T25.setTop (mkF m 177 #[.val (.long q0), .second, .val (.long q1), .second, .val (.long q2), .second, .val (.long q3), .second, .val (.long q4), .second, .val (.int p5), .val (.ref b1), .val (.ref b10), .val (.int rr), .unset] []))
  refine own_st (fun _ k => XS.iload X25.here hx rfl (hb hby at_177) rfl k) ?_
  show own_Go p e below _ (T25.setTop (mkF m 179 #[.val (.long q0), .second, .val (.long q1), .second, .val (.long q2), .second, .val (.long q3), .second, .val (.long q4), .second, .val (.int p5), .val (.ref b1), .val (.ref b10), .val (.int rr), .unset] [(.int rr)]))
  refine own_st (fun _ k => XS.bipush X25.here hx rfl (hb hby at_179) k) ?_
  show own_Go p e below _ (T25.setTop (mkF m 181 #[.val (.long q0), .second, .val (.long q1), .second, .val (.long q2), .second, .val (.long q3), .second, .val (.long q4), .second, .val (.int p5), .val (.ref b1), .val (.ref b10), .val (.int rr), .unset] [(.int (12 : Int32)), (.int rr)]))
  refine own_st (fun _ k => XS.icmpYes X25.here hx rfl (pc0 := 181) (pc' := 186) rfl (hb hby at_181) rfl ((own_i2 _ _ _).trans (own_nno ((own_hi hr6 ok1) : ¬ ((12 : Int32) < rr)))) (by decide) (by decide) k) ?_
  show own_Go p e below _ (T25.setTop (mkF m 186 #[.val (.long q0), .second, .val (.long q1), .second, .val (.long q2), .second, .val (.long q3), .second, .val (.long q4), .second, .val (.int p5), .val (.ref b1), .val (.ref b10), .val (.int rr), .unset] []))
  refine own_st (fun _ k => XS.iload X25.here hx rfl (hb hby at_186) rfl k) ?_
  show own_Go p e below _ (T25.setTop (mkF m 188 #[.val (.long q0), .second, .val (.long q1), .second, .val (.long q2), .second, .val (.long q3), .second, .val (.long q4), .second, .val (.int p5), .val (.ref b1), .val (.ref b10), .val (.int rr), .unset] [(.int rr)]))
  refine own_st (fun _ k => XS.bipush X25.here hx rfl (hb hby at_188) k) ?_
  show own_Go p e below _ (T25.setTop (mkF m 190 #[.val (.long q0), .second, .val (.long q1), .second, .val (.long q2), .second, .val (.long q3), .second, .val (.long q4), .second, .val (.int p5), .val (.ref b1), .val (.ref b10), .val (.int rr), .unset] [(.int (6 : Int32)), (.int rr)]))
  refine own_st (fun _ k => XS.isub X25.here hx rfl (hb hby at_190) rfl k) ?_
  show own_Go p e below _ (T25.setTop (mkF m 191 #[.val (.long q0), .second, .val (.long q1), .second, .val (.long q2), .second, .val (.long q3), .second, .val (.long q4), .second, .val (.int p5), .val (.ref b1), .val (.ref b10), .val (.int rr), .unset] [(.int (rr - (6 : Int32)))]))
  refine own_st (fun _ k => XS.istore X25.here hx rfl (hb hby at_191) rfl (l' := #[.val (.long q0), .second, .val (.long q1), .second, .val (.long q2), .second, .val (.long q3), .second, .val (.long q4), .second, .val (.int p5), .val (.ref b1), .val (.ref b10), .val (.int rr), .val (.int (rr - (6 : Int32)))]) rfl k) ?_
  show own_Go p e below _ (T25.setTop (mkF m 193 #[.val (.long q0), .second, .val (.long q1), .second, .val (.long q2), .second, .val (.long q3), .second, .val (.long q4), .second, .val (.int p5), .val (.ref b1), .val (.ref b10), .val (.int rr), .val (.int (rr - (6 : Int32)))] []))
  refine own_st (fun _ k => XS.aload X25.here hx rfl (hb hby at_193) rfl rfl k) ?_
  show own_Go p e below _ (T25.setTop (mkF m 195 #[.val (.long q0), .second, .val (.long q1), .second, .val (.long q2), .second, .val (.long q3), .second, .val (.long q4), .second, .val (.int p5), .val (.ref b1), .val (.ref b10), .val (.int rr), .val (.int (rr - (6 : Int32)))] [(.ref b10)]))
  refine own_st (fun _ k => XS.iload X25.here hx rfl (hb hby at_195) rfl k) ?_
  show own_Go p e below _ (T25.setTop (mkF m 197 #[.val (.long q0), .second, .val (.long q1), .second, .val (.long q2), .second, .val (.long q3), .second, .val (.long q4), .second, .val (.int p5), .val (.ref b1), .val (.ref b10), .val (.int rr), .val (.int (rr - (6 : Int32)))] [(.int (rr - (6 : Int32))), (.ref b10)]))
  refine own_st (fun _ k => XS.iconst X25.here hx rfl (hb hby at_197) k) ?_
  show own_Go p e below _ (T25.setTop (mkF m 198 #[.val (.long q0), .second, .val (.long q1), .second, .val (.long q2), .second, .val (.long q3), .second, .val (.long q4), .second, .val (.int p5), .val (.ref b1), .val (.ref b10), .val (.int rr), .val (.int (rr - (6 : Int32)))] [(.int (0 : Int32)), (.int (rr - (6 : Int32))), (.ref b10)]))
  obtain ⟨_, T26, _, X26, ⟨rfl, rfl, e26⟩, st26⟩ := own_callS X25 hx hZ (y := (⟨"com/example/stratum_codecs/stratumcodecs/BlocksCheapestShiftPinLaw", "ok", "([JII)Z"⟩ : MethodName)) (argsL := [(.ref b10), (.int (rr - (6 : Int32))), (.int (0 : Int32))]) (rest := []) (W := 0) (g := (mkF m 198 #[.val (.long q0), .second, .val (.long q1), .second, .val (.long q2), .second, .val (.long q3), .second, .val (.long q4), .second, .val (.int p5), .val (.ref b1), .val (.ref b10), .val (.int rr), .val (.int (rr - (6 : Int32)))] [(.int (0 : Int32)), (.int (rr - (6 : Int32))), (.ref b10)])) (rm2 l Z tA hw b10 (rr - (6 : Int32)) (0 : Int32) k10 ff bb 0 h24 Vff hm ok1 rfl (by decide) (ok2 0 (by decide))) hown (hw _ (List.mem_of_getElem? (i := 7) rfl)) (hw _ (List.mem_of_getElem? (i := 8) rfl)) (hw _ (List.mem_of_getElem? (i := 9) rfl)) (hw _ (List.mem_of_getElem? (i := 10) rfl)) (by decide) e25 rfl (by rw [hml]; rfl) pd_1 rfl rfl (by show 2 * 0 + _ ≤ _; exact Nat.le_of_eq rfl) (hb hby at_198) (by decide) (by decide) (by decide) (by decide)
  replace X26 := own_flat X26
  refine own_st st26 ?_
  show own_Go p e below _ (T26.setTop (mkF m 201 #[.val (.long q0), .second, .val (.long q1), .second, .val (.long q2), .second, .val (.long q3), .second, .val (.long q4), .second, .val (.int p5), .val (.ref b1), .val (.ref b10), .val (.int rr), .val (.int (rr - (6 : Int32)))] [(.int (1 : Int32))]))
  refine own_st (fun _ k => XS.ifNo X26.here hx rfl (hb hby at_201) rfl ((own_i0 _ _).trans (own_no ((by decide : ¬ ((1 : Int32) = (0 : Int32))) : ¬ ((1 : Int32) = (0 : Int32))))) k) ?_
  show own_Go p e below _ (T26.setTop (mkF m 204 #[.val (.long q0), .second, .val (.long q1), .second, .val (.long q2), .second, .val (.long q3), .second, .val (.long q4), .second, .val (.int p5), .val (.ref b1), .val (.ref b10), .val (.int rr), .val (.int (rr - (6 : Int32)))] []))
  refine own_st (fun _ k => XS.aload X26.here hx rfl (hb hby at_204) rfl rfl k) ?_
  show own_Go p e below _ (T26.setTop (mkF m 206 #[.val (.long q0), .second, .val (.long q1), .second, .val (.long q2), .second, .val (.long q3), .second, .val (.long q4), .second, .val (.int p5), .val (.ref b1), .val (.ref b10), .val (.int rr), .val (.int (rr - (6 : Int32)))] [(.ref b10)]))
  refine own_st (fun _ k => XS.iload X26.here hx rfl (hb hby at_206) rfl k) ?_
  show own_Go p e below _ (T26.setTop (mkF m 208 #[.val (.long q0), .second, .val (.long q1), .second, .val (.long q2), .second, .val (.long q3), .second, .val (.long q4), .second, .val (.int p5), .val (.ref b1), .val (.ref b10), .val (.int rr), .val (.int (rr - (6 : Int32)))] [(.int (rr - (6 : Int32))), (.ref b10)]))
  refine own_st (fun _ k => XS.iconst X26.here hx rfl (hb hby at_208) k) ?_
  show own_Go p e below _ (T26.setTop (mkF m 209 #[.val (.long q0), .second, .val (.long q1), .second, .val (.long q2), .second, .val (.long q3), .second, .val (.long q4), .second, .val (.int p5), .val (.ref b1), .val (.ref b10), .val (.int rr), .val (.int (rr - (6 : Int32)))] [(.int (1 : Int32)), (.int (rr - (6 : Int32))), (.ref b10)]))
  obtain ⟨_, T27, _, X27, ⟨rfl, rfl, e27⟩, st27⟩ := own_callS X26 hx hZ (y := (⟨"com/example/stratum_codecs/stratumcodecs/BlocksCheapestShiftPinLaw", "ok", "([JII)Z"⟩ : MethodName)) (argsL := [(.ref b10), (.int (rr - (6 : Int32))), (.int (1 : Int32))]) (rest := []) (W := 0) (g := (mkF m 209 #[.val (.long q0), .second, .val (.long q1), .second, .val (.long q2), .second, .val (.long q3), .second, .val (.long q4), .second, .val (.int p5), .val (.ref b1), .val (.ref b10), .val (.int rr), .val (.int (rr - (6 : Int32)))] [(.int (1 : Int32)), (.int (rr - (6 : Int32))), (.ref b10)])) (rm2 l Z tA hw b10 (rr - (6 : Int32)) (1 : Int32) k10 ff bb 1 h24 Vff hm ok1 rfl (by decide) (ok2 1 (by decide))) hown (hw _ (List.mem_of_getElem? (i := 7) rfl)) (hw _ (List.mem_of_getElem? (i := 8) rfl)) (hw _ (List.mem_of_getElem? (i := 9) rfl)) (hw _ (List.mem_of_getElem? (i := 10) rfl)) (by decide) e26 rfl (by rw [hml]; rfl) pd_1 rfl rfl (by show 2 * 0 + _ ≤ _; exact Nat.le_of_eq rfl) (hb hby at_209) (by decide) (by decide) (by decide) (by decide)
  replace X27 := own_flat X27
  refine own_st st27 ?_
  show own_Go p e below _ (T27.setTop (mkF m 212 #[.val (.long q0), .second, .val (.long q1), .second, .val (.long q2), .second, .val (.long q3), .second, .val (.long q4), .second, .val (.int p5), .val (.ref b1), .val (.ref b10), .val (.int rr), .val (.int (rr - (6 : Int32)))] [(.int (1 : Int32))]))
  refine own_st (fun _ k => XS.ifNo X27.here hx rfl (hb hby at_212) rfl ((own_i0 _ _).trans (own_no ((by decide : ¬ ((1 : Int32) = (0 : Int32))) : ¬ ((1 : Int32) = (0 : Int32))))) k) ?_
  show own_Go p e below _ (T27.setTop (mkF m 215 #[.val (.long q0), .second, .val (.long q1), .second, .val (.long q2), .second, .val (.long q3), .second, .val (.long q4), .second, .val (.int p5), .val (.ref b1), .val (.ref b10), .val (.int rr), .val (.int (rr - (6 : Int32)))] []))
  refine own_st (fun _ k => XS.aload X27.here hx rfl (hb hby at_215) rfl rfl k) ?_
  show own_Go p e below _ (T27.setTop (mkF m 217 #[.val (.long q0), .second, .val (.long q1), .second, .val (.long q2), .second, .val (.long q3), .second, .val (.long q4), .second, .val (.int p5), .val (.ref b1), .val (.ref b10), .val (.int rr), .val (.int (rr - (6 : Int32)))] [(.ref b10)]))
  refine own_st (fun _ k => XS.iload X27.here hx rfl (hb hby at_217) rfl k) ?_
  show own_Go p e below _ (T27.setTop (mkF m 219 #[.val (.long q0), .second, .val (.long q1), .second, .val (.long q2), .second, .val (.long q3), .second, .val (.long q4), .second, .val (.int p5), .val (.ref b1), .val (.ref b10), .val (.int rr), .val (.int (rr - (6 : Int32)))] [(.int (rr - (6 : Int32))), (.ref b10)]))
  refine own_st (fun _ k => XS.iconst X27.here hx rfl (hb hby at_219) k) ?_
  show own_Go p e below _ (T27.setTop (mkF m 220 #[.val (.long q0), .second, .val (.long q1), .second, .val (.long q2), .second, .val (.long q3), .second, .val (.long q4), .second, .val (.int p5), .val (.ref b1), .val (.ref b10), .val (.int rr), .val (.int (rr - (6 : Int32)))] [(.int (2 : Int32)), (.int (rr - (6 : Int32))), (.ref b10)]))
  obtain ⟨_, T28, _, X28, ⟨rfl, rfl, e28⟩, st28⟩ := own_callS X27 hx hZ (y := (⟨"com/example/stratum_codecs/stratumcodecs/BlocksCheapestShiftPinLaw", "ok", "([JII)Z"⟩ : MethodName)) (argsL := [(.ref b10), (.int (rr - (6 : Int32))), (.int (2 : Int32))]) (rest := []) (W := 0) (g := (mkF m 220 #[.val (.long q0), .second, .val (.long q1), .second, .val (.long q2), .second, .val (.long q3), .second, .val (.long q4), .second, .val (.int p5), .val (.ref b1), .val (.ref b10), .val (.int rr), .val (.int (rr - (6 : Int32)))] [(.int (2 : Int32)), (.int (rr - (6 : Int32))), (.ref b10)])) (rm2 l Z tA hw b10 (rr - (6 : Int32)) (2 : Int32) k10 ff bb 2 h24 Vff hm ok1 rfl (by decide) (ok2 2 (by decide))) hown (hw _ (List.mem_of_getElem? (i := 7) rfl)) (hw _ (List.mem_of_getElem? (i := 8) rfl)) (hw _ (List.mem_of_getElem? (i := 9) rfl)) (hw _ (List.mem_of_getElem? (i := 10) rfl)) (by decide) e27 rfl (by rw [hml]; rfl) pd_1 rfl rfl (by show 2 * 0 + _ ≤ _; exact Nat.le_of_eq rfl) (hb hby at_220) (by decide) (by decide) (by decide) (by decide)
  replace X28 := own_flat X28
  refine own_st st28 ?_
  show own_Go p e below _ (T28.setTop (mkF m 223 #[.val (.long q0), .second, .val (.long q1), .second, .val (.long q2), .second, .val (.long q3), .second, .val (.long q4), .second, .val (.int p5), .val (.ref b1), .val (.ref b10), .val (.int rr), .val (.int (rr - (6 : Int32)))] [(.int (1 : Int32))]))
  refine own_st (fun _ k => XS.ifNo X28.here hx rfl (hb hby at_223) rfl ((own_i0 _ _).trans (own_no ((by decide : ¬ ((1 : Int32) = (0 : Int32))) : ¬ ((1 : Int32) = (0 : Int32))))) k) ?_
  show own_Go p e below _ (T28.setTop (mkF m 226 #[.val (.long q0), .second, .val (.long q1), .second, .val (.long q2), .second, .val (.long q3), .second, .val (.long q4), .second, .val (.int p5), .val (.ref b1), .val (.ref b10), .val (.int rr), .val (.int (rr - (6 : Int32)))] []))
  refine own_st (fun _ k => XS.aload X28.here hx rfl (hb hby at_226) rfl rfl k) ?_
  show own_Go p e below _ (T28.setTop (mkF m 228 #[.val (.long q0), .second, .val (.long q1), .second, .val (.long q2), .second, .val (.long q3), .second, .val (.long q4), .second, .val (.int p5), .val (.ref b1), .val (.ref b10), .val (.int rr), .val (.int (rr - (6 : Int32)))] [(.ref b10)]))
  refine own_st (fun _ k => XS.iload X28.here hx rfl (hb hby at_228) rfl k) ?_
  show own_Go p e below _ (T28.setTop (mkF m 230 #[.val (.long q0), .second, .val (.long q1), .second, .val (.long q2), .second, .val (.long q3), .second, .val (.long q4), .second, .val (.int p5), .val (.ref b1), .val (.ref b10), .val (.int rr), .val (.int (rr - (6 : Int32)))] [(.int (rr - (6 : Int32))), (.ref b10)]))
  refine own_st (fun _ k => XS.iconst X28.here hx rfl (hb hby at_230) k) ?_
  show own_Go p e below _ (T28.setTop (mkF m 231 #[.val (.long q0), .second, .val (.long q1), .second, .val (.long q2), .second, .val (.long q3), .second, .val (.long q4), .second, .val (.int p5), .val (.ref b1), .val (.ref b10), .val (.int rr), .val (.int (rr - (6 : Int32)))] [(.int (3 : Int32)), (.int (rr - (6 : Int32))), (.ref b10)]))
  obtain ⟨_, T29, _, X29, ⟨rfl, rfl, e29⟩, st29⟩ := own_callS X28 hx hZ (y := (⟨"com/example/stratum_codecs/stratumcodecs/BlocksCheapestShiftPinLaw", "ok", "([JII)Z"⟩ : MethodName)) (argsL := [(.ref b10), (.int (rr - (6 : Int32))), (.int (3 : Int32))]) (rest := []) (W := 0) (g := (mkF m 231 #[.val (.long q0), .second, .val (.long q1), .second, .val (.long q2), .second, .val (.long q3), .second, .val (.long q4), .second, .val (.int p5), .val (.ref b1), .val (.ref b10), .val (.int rr), .val (.int (rr - (6 : Int32)))] [(.int (3 : Int32)), (.int (rr - (6 : Int32))), (.ref b10)])) (rm2 l Z tA hw b10 (rr - (6 : Int32)) (3 : Int32) k10 ff bb 3 h24 Vff hm ok1 rfl (by decide) (ok2 3 (by decide))) hown (hw _ (List.mem_of_getElem? (i := 7) rfl)) (hw _ (List.mem_of_getElem? (i := 8) rfl)) (hw _ (List.mem_of_getElem? (i := 9) rfl)) (hw _ (List.mem_of_getElem? (i := 10) rfl)) (by decide) e28 rfl (by rw [hml]; rfl) pd_1 rfl rfl (by show 2 * 0 + _ ≤ _; exact Nat.le_of_eq rfl) (hb hby at_231) (by decide) (by decide) (by decide) (by decide)
  replace X29 := own_flat X29
  refine own_st st29 ?_
  show own_Go p e below _ (T29.setTop (mkF m 234 #[.val (.long q0), .second, .val (.long q1), .second, .val (.long q2), .second, .val (.long q3), .second, .val (.long q4), .second, .val (.int p5), .val (.ref b1), .val (.ref b10), .val (.int rr), .val (.int (rr - (6 : Int32)))] [(.int (1 : Int32))]))
  refine own_st (fun _ k => XS.ifNo X29.here hx rfl (hb hby at_234) rfl ((own_i0 _ _).trans (own_no ((by decide : ¬ ((1 : Int32) = (0 : Int32))) : ¬ ((1 : Int32) = (0 : Int32))))) k) ?_
  show own_Go p e below _ (T29.setTop (mkF m 237 #[.val (.long q0), .second, .val (.long q1), .second, .val (.long q2), .second, .val (.long q3), .second, .val (.long q4), .second, .val (.int p5), .val (.ref b1), .val (.ref b10), .val (.int rr), .val (.int (rr - (6 : Int32)))] []))
  refine own_st (fun _ k => XS.aload X29.here hx rfl (hb hby at_237) rfl rfl k) ?_
  show own_Go p e below _ (T29.setTop (mkF m 239 #[.val (.long q0), .second, .val (.long q1), .second, .val (.long q2), .second, .val (.long q3), .second, .val (.long q4), .second, .val (.int p5), .val (.ref b1), .val (.ref b10), .val (.int rr), .val (.int (rr - (6 : Int32)))] [(.ref b10)]))
  refine own_st (fun _ k => XS.iload X29.here hx rfl (hb hby at_239) rfl k) ?_
  show own_Go p e below _ (T29.setTop (mkF m 241 #[.val (.long q0), .second, .val (.long q1), .second, .val (.long q2), .second, .val (.long q3), .second, .val (.long q4), .second, .val (.int p5), .val (.ref b1), .val (.ref b10), .val (.int rr), .val (.int (rr - (6 : Int32)))] [(.int (rr - (6 : Int32))), (.ref b10)]))
  refine own_st (fun _ k => XS.iconst X29.here hx rfl (hb hby at_241) k) ?_
  show own_Go p e below _ (T29.setTop (mkF m 242 #[.val (.long q0), .second, .val (.long q1), .second, .val (.long q2), .second, .val (.long q3), .second, .val (.long q4), .second, .val (.int p5), .val (.ref b1), .val (.ref b10), .val (.int rr), .val (.int (rr - (6 : Int32)))] [(.int (4 : Int32)), (.int (rr - (6 : Int32))), (.ref b10)]))
  obtain ⟨_, T30, _, X30, ⟨rfl, rfl, e30⟩, st30⟩ := own_callS X29 hx hZ (y := (⟨"com/example/stratum_codecs/stratumcodecs/BlocksCheapestShiftPinLaw", "ok", "([JII)Z"⟩ : MethodName)) (argsL := [(.ref b10), (.int (rr - (6 : Int32))), (.int (4 : Int32))]) (rest := []) (W := 0) (g := (mkF m 242 #[.val (.long q0), .second, .val (.long q1), .second, .val (.long q2), .second, .val (.long q3), .second, .val (.long q4), .second, .val (.int p5), .val (.ref b1), .val (.ref b10), .val (.int rr), .val (.int (rr - (6 : Int32)))] [(.int (4 : Int32)), (.int (rr - (6 : Int32))), (.ref b10)])) (rm2 l Z tA hw b10 (rr - (6 : Int32)) (4 : Int32) k10 ff bb 4 h24 Vff hm ok1 rfl (by decide) (ok2 4 (by decide))) hown (hw _ (List.mem_of_getElem? (i := 7) rfl)) (hw _ (List.mem_of_getElem? (i := 8) rfl)) (hw _ (List.mem_of_getElem? (i := 9) rfl)) (hw _ (List.mem_of_getElem? (i := 10) rfl)) (by decide) e29 rfl (by rw [hml]; rfl) pd_1 rfl rfl (by show 2 * 0 + _ ≤ _; exact Nat.le_of_eq rfl) (hb hby at_242) (by decide) (by decide) (by decide) (by decide)
  replace X30 := own_flat X30
  refine own_st st30 ?_
  show own_Go p e below _ (T30.setTop (mkF m 245 #[.val (.long q0), .second, .val (.long q1), .second, .val (.long q2), .second, .val (.long q3), .second, .val (.long q4), .second, .val (.int p5), .val (.ref b1), .val (.ref b10), .val (.int rr), .val (.int (rr - (6 : Int32)))] [(.int (1 : Int32))]))
  refine own_st (fun _ k => XS.ifNo X30.here hx rfl (hb hby at_245) rfl ((own_i0 _ _).trans (own_no ((by decide : ¬ ((1 : Int32) = (0 : Int32))) : ¬ ((1 : Int32) = (0 : Int32))))) k) ?_
  show own_Go p e below _ (T30.setTop (mkF m 248 #[.val (.long q0), .second, .val (.long q1), .second, .val (.long q2), .second, .val (.long q3), .second, .val (.long q4), .second, .val (.int p5), .val (.ref b1), .val (.ref b10), .val (.int rr), .val (.int (rr - (6 : Int32)))] []))
  refine own_st (fun _ k => XS.aload X30.here hx rfl (hb hby at_248) rfl rfl k) ?_
  show own_Go p e below _ (T30.setTop (mkF m 250 #[.val (.long q0), .second, .val (.long q1), .second, .val (.long q2), .second, .val (.long q3), .second, .val (.long q4), .second, .val (.int p5), .val (.ref b1), .val (.ref b10), .val (.int rr), .val (.int (rr - (6 : Int32)))] [(.ref b10)]))
  refine own_st (fun _ k => XS.iload X30.here hx rfl (hb hby at_250) rfl k) ?_
  show own_Go p e below _ (T30.setTop (mkF m 252 #[.val (.long q0), .second, .val (.long q1), .second, .val (.long q2), .second, .val (.long q3), .second, .val (.long q4), .second, .val (.int p5), .val (.ref b1), .val (.ref b10), .val (.int rr), .val (.int (rr - (6 : Int32)))] [(.int (rr - (6 : Int32))), (.ref b10)]))
  refine own_st (fun _ k => XS.iconst X30.here hx rfl (hb hby at_252) k) ?_
  show own_Go p e below _ (T30.setTop (mkF m 253 #[.val (.long q0), .second, .val (.long q1), .second, .val (.long q2), .second, .val (.long q3), .second, .val (.long q4), .second, .val (.int p5), .val (.ref b1), .val (.ref b10), .val (.int rr), .val (.int (rr - (6 : Int32)))] [(.int (5 : Int32)), (.int (rr - (6 : Int32))), (.ref b10)]))
  obtain ⟨_, T31, _, X31, ⟨rfl, rfl, e31⟩, st31⟩ := own_callS X30 hx hZ (y := (⟨"com/example/stratum_codecs/stratumcodecs/BlocksCheapestShiftPinLaw", "ok", "([JII)Z"⟩ : MethodName)) (argsL := [(.ref b10), (.int (rr - (6 : Int32))), (.int (5 : Int32))]) (rest := []) (W := 0) (g := (mkF m 253 #[.val (.long q0), .second, .val (.long q1), .second, .val (.long q2), .second, .val (.long q3), .second, .val (.long q4), .second, .val (.int p5), .val (.ref b1), .val (.ref b10), .val (.int rr), .val (.int (rr - (6 : Int32)))] [(.int (5 : Int32)), (.int (rr - (6 : Int32))), (.ref b10)])) (rm2 l Z tA hw b10 (rr - (6 : Int32)) (5 : Int32) k10 ff bb 5 h24 Vff hm ok1 rfl (by decide) (ok2 5 (by decide))) hown (hw _ (List.mem_of_getElem? (i := 7) rfl)) (hw _ (List.mem_of_getElem? (i := 8) rfl)) (hw _ (List.mem_of_getElem? (i := 9) rfl)) (hw _ (List.mem_of_getElem? (i := 10) rfl)) (by decide) e30 rfl (by rw [hml]; rfl) pd_1 rfl rfl (by show 2 * 0 + _ ≤ _; exact Nat.le_of_eq rfl) (hb hby at_253) (by decide) (by decide) (by decide) (by decide)
  replace X31 := own_flat X31
  refine own_st st31 ?_
  show own_Go p e below _ (T31.setTop (mkF m 256 #[.val (.long q0), .second, .val (.long q1), .second, .val (.long q2), .second, .val (.long q3), .second, .val (.long q4), .second, .val (.int p5), .val (.ref b1), .val (.ref b10), .val (.int rr), .val (.int (rr - (6 : Int32)))] [(.int (1 : Int32))]))
  refine own_st (fun _ k => XS.ifNo X31.here hx rfl (hb hby at_256) rfl ((own_i0 _ _).trans (own_no ((by decide : ¬ ((1 : Int32) = (0 : Int32))) : ¬ ((1 : Int32) = (0 : Int32))))) k) ?_
  show own_Go p e below _ (T31.setTop (mkF m 259 #[.val (.long q0), .second, .val (.long q1), .second, .val (.long q2), .second, .val (.long q3), .second, .val (.long q4), .second, .val (.int p5), .val (.ref b1), .val (.ref b10), .val (.int rr), .val (.int (rr - (6 : Int32)))] []))
  refine own_st (fun _ k => XS.aload X31.here hx rfl (hb hby at_259) rfl rfl k) ?_
  show own_Go p e below _ (T31.setTop (mkF m 261 #[.val (.long q0), .second, .val (.long q1), .second, .val (.long q2), .second, .val (.long q3), .second, .val (.long q4), .second, .val (.int p5), .val (.ref b1), .val (.ref b10), .val (.int rr), .val (.int (rr - (6 : Int32)))] [(.ref b10)]))
  refine own_st (fun _ k => XS.iload X31.here hx rfl (hb hby at_261) rfl k) ?_
  show own_Go p e below _ (T31.setTop (mkF m 263 #[.val (.long q0), .second, .val (.long q1), .second, .val (.long q2), .second, .val (.long q3), .second, .val (.long q4), .second, .val (.int p5), .val (.ref b1), .val (.ref b10), .val (.int rr), .val (.int (rr - (6 : Int32)))] [(.int (rr - (6 : Int32))), (.ref b10)]))
  refine own_st (fun _ k => XS.bipush X31.here hx rfl (hb hby at_263) k) ?_
  show own_Go p e below _ (T31.setTop (mkF m 265 #[.val (.long q0), .second, .val (.long q1), .second, .val (.long q2), .second, .val (.long q3), .second, .val (.long q4), .second, .val (.int p5), .val (.ref b1), .val (.ref b10), .val (.int rr), .val (.int (rr - (6 : Int32)))] [(.int (6 : Int32)), (.int (rr - (6 : Int32))), (.ref b10)]))
  obtain ⟨_, T32, _, X32, ⟨rfl, rfl, e32⟩, st32⟩ := own_callS X31 hx hZ (y := (⟨"com/example/stratum_codecs/stratumcodecs/BlocksCheapestShiftPinLaw", "ok", "([JII)Z"⟩ : MethodName)) (argsL := [(.ref b10), (.int (rr - (6 : Int32))), (.int (6 : Int32))]) (rest := []) (W := 0) (g := (mkF m 265 #[.val (.long q0), .second, .val (.long q1), .second, .val (.long q2), .second, .val (.long q3), .second, .val (.long q4), .second, .val (.int p5), .val (.ref b1), .val (.ref b10), .val (.int rr), .val (.int (rr - (6 : Int32)))] [(.int (6 : Int32)), (.int (rr - (6 : Int32))), (.ref b10)])) (rm2 l Z tA hw b10 (rr - (6 : Int32)) (6 : Int32) k10 ff bb 6 h24 Vff hm ok1 rfl (by decide) (ok2 6 (by decide))) hown (hw _ (List.mem_of_getElem? (i := 7) rfl)) (hw _ (List.mem_of_getElem? (i := 8) rfl)) (hw _ (List.mem_of_getElem? (i := 9) rfl)) (hw _ (List.mem_of_getElem? (i := 10) rfl)) (by decide) e31 rfl (by rw [hml]; rfl) pd_1 rfl rfl (by show 2 * 0 + _ ≤ _; exact Nat.le_of_eq rfl) (hb hby at_265) (by decide) (by decide) (by decide) (by decide)
  replace X32 := own_flat X32
  refine own_st st32 ?_
  show own_Go p e below _ (T32.setTop (mkF m 268 #[.val (.long q0), .second, .val (.long q1), .second, .val (.long q2), .second, .val (.long q3), .second, .val (.long q4), .second, .val (.int p5), .val (.ref b1), .val (.ref b10), .val (.int rr), .val (.int (rr - (6 : Int32)))] [(.int (1 : Int32))]))
  refine own_st (fun _ k => XS.ifNo X32.here hx rfl (hb hby at_268) rfl ((own_i0 _ _).trans (own_no ((by decide : ¬ ((1 : Int32) = (0 : Int32))) : ¬ ((1 : Int32) = (0 : Int32))))) k) ?_
  show own_Go p e below _ (T32.setTop (mkF m 271 #[.val (.long q0), .second, .val (.long q1), .second, .val (.long q2), .second, .val (.long q3), .second, .val (.long q4), .second, .val (.int p5), .val (.ref b1), .val (.ref b10), .val (.int rr), .val (.int (rr - (6 : Int32)))] []))
  refine own_st (fun _ k => XS.iconst X32.here hx rfl (hb hby at_271) k) ?_
  show own_Go p e below _ (T32.setTop (mkF m 272 #[.val (.long q0), .second, .val (.long q1), .second, .val (.long q2), .second, .val (.long q3), .second, .val (.long q4), .second, .val (.int p5), .val (.ref b1), .val (.ref b10), .val (.int rr), .val (.int (rr - (6 : Int32)))] [(.int (1 : Int32))]))
  refine own_st (fun _ k => XS.goto X32.here hx rfl (pc0 := 272) (pc' := 276) rfl (hb hby at_272) (by decide) (by decide) k) ?_
  show own_Go p e below _ (T32.setTop (mkF m 276 #[.val (.long q0), .second, .val (.long q1), .second, .val (.long q2), .second, .val (.long q3), .second, .val (.long q4), .second, .val (.int p5), .val (.ref b1), .val (.ref b10), .val (.int rr), .val (.int (rr - (6 : Int32)))] [(.int (1 : Int32))]))
  exact own_retZ X32 hx hlk hret rfl (hb hby at_276) ⟨rfl, N0⟩ (by decide) (by decide)
set_option maxRecDepth 65536 in
set_option maxHeartbeats 40000000 in
theorem comes_1 {Post : Tables → Env → Array Value → State → Outcome → State → Prop} (hpost : ∀ tb e args s v u, (limb_1_1.after args s (.returned v) u = true ∧ limb_1_2.after args s (.returned v) u = true ∧ True) → FrameEnd s (.returned v) u (Jvm.fieldLocs frame_1_writes args s ++ Jvm.arrayLocs frame_1_arrays args s ++ Jvm.staticLocs frame_1_statics s) 16 128 → Post tb e args s (.returned v) u) :
    ArmFor flags0 classFile x code maxLocals ret World_1 tables_1 room_1 Calls_1 rest_1 Pre_1 Post := by
  intro l hfl _ _ p e ha hc hk s m args below hf hA hF happ hP
  obtain ⟨hcalls, hrest, hpre⟩ := hP
  obtain ⟨-, -, -, hnamed, -, -, -, hat⟩ := (Spec.applies_iff hf).mp happ
  obtain ⟨hg, hn⟩ := and_e (Cond.before_iff.mp (show (Jvm.Cond.and given_1 narrow_1).before args s = true from hpre))
  obtain ⟨g1, g2⟩ := and_e hg
  obtain ⟨g3, g4⟩ := and_e g2
  obtain ⟨g5, g6⟩ := and_e g4
  obtain ⟨g7, g8⟩ := and_e g6
  obtain ⟨g9, g10⟩ := and_e g8
  obtain ⟨g11, g12⟩ := and_e g10
  obtain ⟨w0, w1, w2, w3, w4, w5, rfl⟩ : ∃ w0 w1 w2 w3 w4 w5 : Value, args = #[w0, w1, w2, w3, w4, w5] := by
    have hs : args.size = 6 := by simpa [Cond.value, given_1] using g1
    obtain ⟨L⟩ := args
    match L, hs with
    | [w0, w1, w2, w3, w4, w5], _ => exact ⟨w0, w1, w2, w3, w4, w5, rfl⟩
  have hw := fun d (hd : d ∈ tables_1) => atoms_spec (ws := Jvm.Cond.code x code maxLocals ret :: tables_1) hat d (List.mem_cons_of_mem _ hd)
  obtain ⟨i0, ei0⟩ := isL_v g3
  obtain rfl : w0 = (.long i0) := Option.some.inj ei0
  obtain ⟨i1, ei1⟩ := isL_v g5
  obtain rfl : w1 = (.long i1) := Option.some.inj ei1
  obtain ⟨i2, ei2⟩ := isL_v g7
  obtain rfl : w2 = (.long i2) := Option.some.inj ei2
  obtain ⟨i3, ei3⟩ := isL_v g9
  obtain rfl : w3 = (.long i3) := Option.some.inj ei3
  obtain ⟨i4, ei4⟩ := isL_v g11
  obtain rfl : w4 = (.long i4) := Option.some.inj ei4
  obtain ⟨i5, ei5⟩ := is_v g12
  obtain rfl : w5 = (.int i5) := Option.some.inj ei5
  obtain ⟨n, o, h1, h2, h3, _, L, rfl, ⟨rfl, N⟩, hq⟩ := rm0 l s _ hw i0 i1 i2 i3 i4 i5 s.heap s.heap.size (Nat.le_refl _) p e ha hc hk s m _ below hf ((Spec.applies_iff_loose hf).mp happ).1 ⟨rfl, State.Warmed39.refl s, rfl⟩ trivial
  refine ⟨n, _, h1, h2, h3, hpost _ _ _ _ _ _ ⟨Cond.after_iff.mpr rfl, Cond.after_iff.mpr (eq_i res_at (Term.int_eval (1)) rfl), trivial⟩ ⟨hq.1, hq.2.1, (hq.2.2.sift fun y hy => Or.inr (N y hy)).mono (by decide) (by decide)⟩⟩
theorem main_1_1 : Claimed_1_1 := comes_1 fun _ _ _ _ _ _ h hF => ⟨h.1, hF⟩
theorem main_1_2 : Claimed_1_2 := comes_1 fun _ _ _ _ _ _ h hF => ⟨h.2.1, hF⟩
end Jvm.Pilot.@@N@@
namespace Jvm.Pilot.@@N@@
open Jvm Jvm.ClassFile Sem Op Lib Jvm.Free Jvm.Stand Jvm.Pilot.@@N@@.Jvm.D
/-! MADE BY PROGRAM (witnessworld.py) out of the Statement's table words and the real class files: 11 classes; the members and pool entries that the words name. The judged class is class 1, her method 2. -/
namespace start1
open Jvm.ClassFile
def u (s : String) : CpInfo := .utf8 (stringToUtf16 s)
/-- a pool by its gaps: so many unusable entries, then the entry; so many at the end -/
def gap : Nat → List CpInfo → List CpInfo
  | 0, r => r
  | n + 1, r => .unusable :: gap n r
def poolList (es : List (Nat × CpInfo)) (last : Nat) : List CpInfo := es.foldr (fun e r => gap e.1 (e.2 :: r)) (gap last [])
def pool (es : List (Nat × CpInfo)) (last : Nat) : Array CpInfo := ⟨poolList es last⟩
def fileOf (pool : Array CpInfo) (this : Nat) (attrs : Array Attribute := #[]) (ms : Array MethodInfo := #[]) (fl : Nat := 33) (sup : Nat := 0) (ifs : Array Nat := #[]) (fds : Array FieldInfo := #[]) : ClassFile where
  minorVersion := 0
  majorVersion := 65
  constantPool := pool
  accessFlags := fl
  thisClass := this
  superClass := sup
  interfaces := ifs
  fields := fds
  methods := ms
  attributes := attrs
def plain (name : String) (sup : Option ClassId) : Class where
  name := name
  kind := .ordinary
  loader := none
  accessFlags := 33
  super := sup
  interfaces := #[]
  cf := none
  fields := #[]
  methods := #[]
  instanceTypes := #[]
  staticTypes := #[]
  resolved := #[]
  callSites := []
  init := .initialized
  statics := none
  mirror := none

def pool0 : Array CpInfo := pool [(5, u "<init>"), (0, u "()V"), (1, .class_ 10), (1, u "java/lang/Object")] 113

def k0m0 : Method := { name := "<init>", desc := "()V", sig := { parameters := [], returnType := none }, accessFlags := 1, code := none }
/-- java/lang/Object -/
def k0 : Class := { plain "java/lang/Object" none with
  accessFlags := 33
  interfaces := #[]
  cf := some (fileOf pool0 8 #[] #[{ accessFlags := 1, nameIndex := 5, descriptorIndex := 6, attributes := #[] }] 33 0 #[] #[])
  fields := #[]
  methods := #[k0m0]
  instanceTypes := #[]
  staticTypes := #[]
  resolved := Array.replicate 124 none
  statics := none }

def pool1 : Array CpInfo := pool [(2, .class_ 4), (1, u "java/lang/Object"), (0, u "<init>"), (0, u "()V"), (2, .long 9223372036854775808), (1, .long 9223372036854775807), (1, .methodref 14 15), (0, .class_ 16), (0, .nameAndType 17 18), (0, u "com/example/stratum_codecs/stratumcodecs/Blocks"), (0, u "cheapestShift"), (0, u "([J)I"), (0, .methodref 20 21), (0, .class_ 22), (0, .nameAndType 23 24), (0, u "com/example/stratum_codecs/stratumcodecs/BlocksCheapestShiftPinLaw"), (0, u "ok"), (0, u "([JII)Z"), (3, u "law"), (0, u "(JJJJJI)Z")] 4

def k1m0 : Method := { name := "<init>", desc := "()V", sig := { parameters := [], returnType := none }, accessFlags := 1, code := none }
def k1c1 : Code := { maxStack := 4, maxLocals := 3, code := method_2_code, exceptionTable := #[], attributes := #[] }
def k1m1 : Method := { name := "ok", desc := "([JII)Z", sig := { parameters := [(.array .long), .int, .int], returnType := some .boolean }, accessFlags := 10, code := some k1c1 }
def k1c2 : Code := { maxStack := 5, maxLocals := 15, code := code, exceptionTable := #[], attributes := #[] }
def k1m2 : Method := { name := "law", desc := "(JJJJJI)Z", sig := { parameters := [.long, .long, .long, .long, .long, .int], returnType := some .boolean }, accessFlags := 9, code := some k1c2 }
/-- com/example/stratum_codecs/stratumcodecs/BlocksCheapestShiftPinLaw -/
def k1 : Class := { plain "com/example/stratum_codecs/stratumcodecs/BlocksCheapestShiftPinLaw" (some 0) with
  accessFlags := 49
  interfaces := #[]
  cf := some (fileOf pool1 20 #[] #[{ accessFlags := 1, nameIndex := 5, descriptorIndex := 6, attributes := #[] }, { accessFlags := 10, nameIndex := 23, descriptorIndex := 24, attributes := #[] }, { accessFlags := 9, nameIndex := 28, descriptorIndex := 29, attributes := #[] }] 49 2 #[] #[])
  fields := #[]
  methods := #[k1m0, k1m1, k1m2]
  instanceTypes := #[]
  staticTypes := #[]
  resolved := Array.replicate 34 none
  statics := none }

def pool2 : Array CpInfo := pool [(1, .class_ 2), (0, u "com/example/stratum_codecs/stratumcodecs/Blocks"), (1, .class_ 6), (1, u "java/lang/Object"), (0, u "<init>"), (0, u "()V"), (14, u "BLOCK_SHIFT"), (0, u "I"), (2, u "BLOCK_SIZE"), (1, u "MIN_RUN_SHIFT"), (1, u "RUN_SHIFTS"), (3, u "cheapestShift"), (0, u "([J)I")] 6

def k2m0 : Method := { name := "<init>", desc := "()V", sig := { parameters := [], returnType := none }, accessFlags := 2, code := none }
def k2c1 : Code := { maxStack := 5, maxLocals := 3, code := prog_15_method_2_code, exceptionTable := #[], attributes := #[] }
def k2m1 : Method := { name := "cheapestShift", desc := "([J)I", sig := { parameters := [(.array .long)], returnType := some .int }, accessFlags := 8, code := some k2c1 }
/-- com/example/stratum_codecs/stratumcodecs/Blocks -/
def k2 : Class := { plain "com/example/stratum_codecs/stratumcodecs/Blocks" (some 0) with
  accessFlags := 48
  interfaces := #[]
  cf := some (fileOf pool2 1 #[] #[{ accessFlags := 2, nameIndex := 7, descriptorIndex := 8, attributes := #[] }, { accessFlags := 8, nameIndex := 35, descriptorIndex := 36, attributes := #[] }] 48 4 #[] #[{ accessFlags := 24, nameIndex := 23, descriptorIndex := 24, attributes := #[] }, { accessFlags := 24, nameIndex := 27, descriptorIndex := 24, attributes := #[] }, { accessFlags := 24, nameIndex := 29, descriptorIndex := 24, attributes := #[] }, { accessFlags := 24, nameIndex := 31, descriptorIndex := 24, attributes := #[] }])
  fields := #[{ name := "BLOCK_SHIFT", type := .int, accessFlags := 24, slot := 0, constantValue := 0 }, { name := "BLOCK_SIZE", type := .int, accessFlags := 24, slot := 1, constantValue := 0 }, { name := "MIN_RUN_SHIFT", type := .int, accessFlags := 24, slot := 2, constantValue := 0 }, { name := "RUN_SHIFTS", type := .int, accessFlags := 24, slot := 3, constantValue := 0 }]
  methods := #[k2m0, k2m1]
  instanceTypes := #[]
  staticTypes := #[.int, .int, .int, .int]
  resolved := Array.replicate 43 none
  statics := none }

def pool3 : Array CpInfo := pool [(1, u "java/lang/Cloneable"), (0, .class_ 1), (0, u "java/lang/Object"), (0, .class_ 3)] 3

/-- java/lang/Cloneable -/
def k3 : Class := { plain "java/lang/Cloneable" (some 0) with
  accessFlags := 1537
  interfaces := #[]
  cf := some (fileOf pool3 2 #[] #[] 1537 4 #[] #[])
  fields := #[]
  methods := #[]
  instanceTypes := #[]
  staticTypes := #[]
  resolved := Array.replicate 8 none
  statics := none }

def pool4 : Array CpInfo := pool [(1, u "java/io/Serializable"), (0, .class_ 1), (0, u "java/lang/Object"), (0, .class_ 3)] 3

/-- java/io/Serializable -/
def k4 : Class := { plain "java/io/Serializable" (some 0) with
  accessFlags := 1537
  interfaces := #[]
  cf := some (fileOf pool4 2 #[] #[] 1537 4 #[] #[])
  fields := #[]
  methods := #[]
  instanceTypes := #[]
  staticTypes := #[]
  resolved := Array.replicate 8 none
  statics := none }

/-- the primitive byte -/
def k5 : Class := { plain "byte" none with kind := .primitive 'B', accessFlags := 0x411 }
/-- [B -/
def k6 : Class := { plain "[B" (some 0) with kind := .array 5 .byte, interfaces := #[3, 4], accessFlags := 1041 }

/-- the primitive int -/
def k7 : Class := { plain "int" none with kind := .primitive 'I', accessFlags := 0x411 }
/-- [I -/
def k8 : Class := { plain "[I" (some 0) with kind := .array 7 .int, interfaces := #[3, 4], accessFlags := 1041 }

/-- the primitive long -/
def k9 : Class := { plain "long" none with kind := .primitive 'J', accessFlags := 0x411 }
/-- [J -/
def k10 : Class := { plain "[J" (some 0) with kind := .array 9 .long, interfaces := #[3, 4], accessFlags := 1041 }

def heap : Heap := #[]
def classes : Array Class := #[k0, k1, k2, k3, k4, k5, k6, k7, k8, k9, k10]
def interned : List (Array UInt16 × Addr) := []
def slotsUsed : Nat := 0
def theMethod : MethodId := ⟨1, 2⟩
def args0 : Array Value := #[.long 5, .long 3, .long 8, .long 1, .long 2, .int 9]
def aboutOver (below : List Frame) : State where
  vm := { classes := classes, interned := interned.toArray }
  heap := heap
  slotsUsed := slotsUsed
  threads := #[{ frames := .invoking theMethod args0 :: below }]
def below0 : List Frame := [.native { method := ⟨0, 0⟩, args := #[] }]
def about1 : State := aboutOver below0
def p0 : Program := .bare "" "" ""
def e0 : Env := launch0.env 0 0 0
theorem w_frames : about1.frames = Frame.invoking theMethod args0 :: below0 := rfl
set_option maxRecDepth 65536 in
theorem w_args : argsFit about1.vm theMethod args0 = true := by decide +kernel
set_option maxRecDepth 65536 in
theorem w_heap : heapFits about1 = true := by decide +kernel
set_option maxRecDepth 65536 in
theorem w_runnable : about1.curStatus? = some .runnable := by decide +kernel
set_option maxRecDepth 65536 in
theorem w_alone : about1.alone = true := by decide +kernel
set_option maxRecDepth 65536 in
theorem w_named : about1.methodNamed? x = some theMethod := by decide +kernel
set_option maxRecDepth 65536 in
theorem w_hears : about1.hears theMethod below0 = true := by decide +kernel
set_option maxRecDepth 65536 in
theorem w_ripe : about1.ripe theMethod args0 below0 = true := by decide +kernel
theorem w_running : about1.status = .running := rfl
set_option maxRecDepth 65536 in
theorem w_room : about1.hasRoom e0.platform room_1 = true :=
  launch0.hasRoom_least _ room_1 (by decide +kernel) (by decide +kernel) (by decide +kernel) (by decide +kernel) (by decide +kernel) (by decide +kernel)
theorem allAtoms_all (ts : List Jvm.Cond) (a : Array Jvm.Value) (st : Jvm.State) : (allAtoms ts).before a st = ts.all (fun c => c.before a st) := by
  induction ts with
  | nil => rfl
  | cons c t ih =>
    show (Jvm.Cond.and c (allAtoms t)).before a st = _
    rw [Jvm.Cond.before_and, ih, List.all_cons]
def words1 : List Jvm.Cond := Jvm.Cond.code x code maxLocals ret :: tables_1
/-- a 'code' word, met by the world's own term for the bytes: nothing is compared byte by byte -/
theorem code_word {y : MethodName} {bytes : ByteArray} {mx : Nat} {rt : Option FieldType} {a : Array Value} {s : State} {m : MethodId} {meth : Method} {c : Code} (h1 : s.methodNamed? y = some m) (h2 : s.vm.method? m = some meth) (h3 : meth.code = some c) (h4 : c.code = bytes)
    (h5 : (c.maxLocals == mx && c.exceptionTable.isEmpty && decide (c.maxStack ≤ mostOperands) && decide (meth.sig.returnType = rt) && !meth.locks && decide (parseMethodDescriptor y.desc = some meth.sig)) = true) : (Jvm.Cond.code y bytes mx rt).before a s = true := by
  simp only [Bool.and_eq_true, beq_iff_eq, Bool.not_eq_true', decide_eq_true_eq] at h5
  obtain ⟨⟨⟨⟨⟨g1, g2⟩, g3⟩, g4⟩, g5⟩, g6⟩ := h5
  simp [Cond.before, Cond.holds, Cond.value, h1, h2, h3, h4, g1, g2, g3, g4, g5, g6]
def isCode : Jvm.Cond → Bool
  | .code _ _ _ _ => true
  | _ => false
theorem all_split {L : List Jvm.Cond} {P : Jvm.Cond → Bool} (h1 : L.all (fun c => isCode c || P c) = true) (h2 : ∀ c ∈ L.filter isCode, P c = true) : L.all P = true := by
  refine List.all_eq_true.mpr fun c hc => ?_
  have h := List.all_eq_true.mp h1 c hc
  rcases Bool.eq_false_or_eq_true (isCode c) with hi | hi
  · exact h2 c (List.mem_filter.mpr ⟨hc, hi⟩)
  · simpa [hi] using h
set_option maxRecDepth 65536 in
theorem w_c0 : (Jvm.Cond.code x code maxLocals ret).before args0 about1 = true := code_word (m := ⟨1, 2⟩) (meth := k1m2) (c := k1c2) (by decide +kernel) rfl rfl rfl (by decide +kernel)
set_option maxRecDepth 65536 in
theorem w_c1 : (Jvm.Cond.code ({ cls := "com/example/stratum_codecs/stratumcodecs/Blocks", name := "cheapestShift", desc := "([J)I" } : Jvm.MethodName) prog_15_method_2_code (3 : Nat) (Option.some Jvm.ClassFile.FieldType.int)).before args0 about1 = true := code_word (m := ⟨2, 1⟩) (meth := k2m1) (c := k2c1) (by decide +kernel) rfl rfl rfl (by decide +kernel)
set_option maxRecDepth 65536 in
theorem w_c2 : (Jvm.Cond.code ({ cls := "com/example/stratum_codecs/stratumcodecs/BlocksCheapestShiftPinLaw", name := "ok", desc := "([JII)Z" } : Jvm.MethodName) method_2_code (3 : Nat) (Option.some Jvm.ClassFile.FieldType.boolean)).before args0 about1 = true := code_word (m := ⟨1, 1⟩) (meth := k1m1) (c := k1c1) (by decide +kernel) rfl rfl rfl (by decide +kernel)
def codes1 : List Jvm.Cond := [Jvm.Cond.code x code maxLocals ret, Jvm.Cond.code ({ cls := "com/example/stratum_codecs/stratumcodecs/Blocks", name := "cheapestShift", desc := "([J)I" } : Jvm.MethodName) prog_15_method_2_code (3 : Nat) (Option.some Jvm.ClassFile.FieldType.int), Jvm.Cond.code ({ cls := "com/example/stratum_codecs/stratumcodecs/BlocksCheapestShiftPinLaw", name := "ok", desc := "([JII)Z" } : Jvm.MethodName) method_2_code (3 : Nat) (Option.some Jvm.ClassFile.FieldType.boolean)]
set_option maxRecDepth 65536 in
theorem codes_eq : words1.filter isCode = codes1 := rfl
theorem w_codes : ∀ c ∈ words1.filter isCode, c.before args0 about1 = true := by
  rw [codes_eq]
  intro c hc
  simp only [codes1, List.mem_cons, List.not_mem_nil, or_false] at hc
  rcases hc with rfl | rfl | rfl
  · exact w_c0
  · exact w_c1
  · exact w_c2
set_option maxRecDepth 65536 in
theorem w_t1 : words1.all (fun c => isCode c || c.before args0 about1) = true := by decide +kernel
theorem w_tables : (allAtoms (Jvm.Cond.code x code maxLocals ret :: tables_1)).before args0 about1 = true := by
  rw [allAtoms_all]
  show words1.all (fun c => c.before args0 about1) = true
  refine all_split ?_ w_codes
  rw [w_t1]
set_option maxRecDepth 65536 in
theorem w_case : (Jvm.Cond.and given_1 narrow_1).before args0 about1 = true := by decide +kernel
theorem w_applies : (headSpec (Jvm.Cond.code x code maxLocals ret :: tables_1) room_1).applies x e0.platform about1 = true :=
  (Spec.applies_iff w_frames).mpr ⟨w_running, w_runnable, w_alone, w_named, w_hears, w_ripe, w_room, w_tables⟩
theorem atStart : AtStart classFile x code maxLocals ret World_1 tables_1 room_1 Calls_1 rest_1 Pre_1 launch0 p0 e0 about1 theMethod args0 below0 :=
  ⟨lists_1, trivial, launch0.admits_env _ _ _, launch0.least_env, fairChoices_fair.cas, fairChoices_fair.clock, w_frames, w_args, w_heap, w_applies, trivial, trivial, w_case⟩
end start1
theorem witness_1 : WitnessClaimed_1 := ⟨start1.p0, start1.e0, start1.about1, start1.theMethod, start1.args0, start1.below0, start1.atStart⟩
end Jvm.Pilot.@@N@@
