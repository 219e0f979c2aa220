import JvmDerived
import JvmDerived.Pilot.@@N@@Statement
import JvmDerived.Pilot.@@N@@Code
set_option linter.unusedVariables false
set_option linter.unusedSimpArgs false
namespace Jvm.Pilot.@@N@@
open Jvm Jvm.ClassFile Sem Op Lib Jvm.Free Jvm.Stand Jvm.LawKit Jvm.RoadKit Bundle Jvm.Pilot.@@N@@.Jvm.D
section OwnKit
variable {p : Program} {l : Launch} {e : Env} {R : Room} {s : State} {m : MethodId} {args : Array Value} {below : List Frame} {meth : Method} {c : Code} {T : State} {locs : List Loc} {cells slots : Nat} {Z : State} {a0 : Array Value} {h : Heap}
/-- from the state U on the run comes to an end of which Q holds -/
def own_Go (p : Program) (e : Env) (below : List Frame) (Q : Outcome → State → Prop) (U : State) : Prop :=
  ∃ u o, Steps p.tables e below U u ∧ u.status = .running ∧ Ended u below o ∧ Q o u
theorem own_st {Q : Outcome → State → Prop} {U V : State} (k : ∀ t, Steps p.tables e below V t → Steps p.tables e below U t) (q : own_Go p e below Q V) : own_Go p e below Q U := by
  obtain ⟨u, o, h1, h2⟩ := q
  exact ⟨u, o, k _ h1, h2⟩
theorem own_tr {Q : Outcome → State → Prop} {U V : State} (k : Steps p.tables e below U V) (q : own_Go p e below Q V) : own_Go p e below Q U := by
  obtain ⟨u, o, h1, h2⟩ := q
  exact ⟨u, o, k.trans h1, h2⟩
/-- what a body leaves, said of its end -/
abbrev own_Post (s : State) (Qc : Option Value → Heap → List Loc → Prop) (k n : Nat) : Outcome → State → Prop := fun o u => ∃ v L, o = .returned v ∧ Qc v u.heap L ∧ FrameEnd s o u L k n
theorem own_body {y : MethodName} {bytes : ByteArray} {maxL : Nat} {ret : Option FieldType} {ws : List Jvm.Cond} {rm : Room} {as' : Array Value} {h0 : Heap} {Qc : Option Value → Heap → List Loc → Prop} {k n : Nat} (hpl : plainFor y = true)
    (body : ∀ (p : Program) (e : Env) (s : State) (m : MethodId) (below : List Frame) (meth : Method) (c : Code) (s₁ : State), Stand p l e rm s m as' below meth c s₁ [] 0 0 → p.tables.exec = Jvm.exec → Z.Warmed39 s.vm → c.code = bytes → c.maxLocals = maxL → s.vm.findClass y.cls = some m.cls →
      meth.sig.returnType = ret → meth.locks = false → meth.name = y.name → s₁.heap = h0 → own_Go p e below (own_Post s Qc k n) (s₁.setTop (entryFrame m as' maxL))) :
    MetFree l y (head1 (Jvm.Cond.code y bytes maxL ret :: ws) rm) (fun a U => a = as' ∧ Z.Warmed39 U.vm ∧ U.heap = h0) (fun _ _ _ _ _ => True) (fun _ U o U' => own_Post U Qc k n o U') := by
  refine MetFree.of_bodySF hpl hisR ?_
  intro p e s m args below meth c s₁ Bd hml0 hP hK
  obtain ⟨rfl, hZ, hh⟩ := hP
  exact body p e s m below meth c s₁ (Stand.of_body Bd) Bd.exec hZ Bd.bytes hml0 (findClass_of_methodNamed Bd.named) Bd.returns Bd.notSynchronized (name_of_methodNamed Bd.named Bd.method).1 (by rw [← hh, Bd.state]; rfl)
theorem own_end {Qc : Option Value → Heap → List Loc → Prop} {k n : Nat} {v : Option Value} (X : Stand p l e R s m args below meth c T locs cells slots) (hlk : meth.locks = false) (hv : meth.sig.returnType = none → v = none) {g : JFrame}
    (hst : ∀ fs, (∀ (f : JFrame) (acts : List Action), f.method = m → f.locked = none → f.entered = [] → (doReturn e (T.setTop f) acts v).1 = T.setFrames fs) → Steps p.tables e below (T.setTop g) (T.setFrames fs))
    (hQ : Qc v T.heap locs) (hk : cells ≤ k) (hn : slots ≤ n) : own_Go p e below (own_Post s Qc k n) (T.setTop g) := by
  obtain ⟨fs, hr, hrun, hended, hW, hsame⟩ := X.leave (v := v) hv hlk
  exact ⟨_, _, hst fs hr, hrun, hended, _, _, rfl, hQ, ⟨_, rfl⟩, hW, hsame.mono hk hn⟩
theorem own_retI {Qc : Option Value → Heap → List Loc → Prop} {k n : Nat} (X : Stand p l e R s m args below meth c T locs cells slots) (hx : p.tables.exec = Jvm.exec) (hlk : meth.locks = false) (hret : meth.sig.returnType = some .int) {pc : Nat} {Ls : Array Slot} {z : Int32} {rest : List Value}
    (hd : decode c.code pc = .ok (.ireturn, 1)) (hQ : Qc (some (.int z)) T.heap locs) (hk : cells ≤ k) (hn : slots ≤ n) : own_Go p e below (own_Post s Qc k n) (T.setTop (mkF m pc Ls (.int z :: rest))) :=
  own_end X hlk (fun q => by rw [hret] at q; cases q) (fun fs hr => retOut X hx hret (w := .int z) (t := .int) rfl (Or.inl ⟨rfl, Or.inl rfl, z, rfl⟩) hd hr) hQ hk hn
theorem own_retZ {Qc : Option Value → Heap → List Loc → Prop} {k n : Nat} (X : Stand p l e R s m args below meth c T locs cells slots) (hx : p.tables.exec = Jvm.exec) (hlk : meth.locks = false) (hret : meth.sig.returnType = some .boolean) {pc : Nat} {Ls : Array Slot} {z : Int32} {rest : List Value}
    (hz : narrow .boolean (.int z) = .int z) (hd : decode c.code pc = .ok (.ireturn, 1)) (hQ : Qc (some (.int z)) T.heap locs) (hk : cells ≤ k) (hn : slots ≤ n) : own_Go p e below (own_Post s Qc k n) (T.setTop (mkF m pc Ls (.int z :: rest))) :=
  own_end X hlk (fun q => by rw [hret] at q; cases q) (fun fs hr => retOut X hx hret (w := .int z) (t := .boolean) hz (Or.inl ⟨rfl, Or.inr (Or.inl rfl), z, rfl⟩) hd hr) hQ hk hn
theorem own_retJ {Qc : Option Value → Heap → List Loc → Prop} {k n : Nat} (X : Stand p l e R s m args below meth c T locs cells slots) (hx : p.tables.exec = Jvm.exec) (hlk : meth.locks = false) (hret : meth.sig.returnType = some .long) {pc : Nat} {Ls : Array Slot} {z : Int64} {rest : List Value}
    (hd : decode c.code pc = .ok (.lreturn, 1)) (hQ : Qc (some (.long z)) T.heap locs) (hk : cells ≤ k) (hn : slots ≤ n) : own_Go p e below (own_Post s Qc k n) (T.setTop (mkF m pc Ls (.long z :: rest))) :=
  own_end X hlk (fun q => by rw [hret] at q; cases q) (fun fs hr => retOut X hx hret (w := .long z) (t := .long) rfl (Or.inr (Or.inl ⟨rfl, rfl, z, rfl⟩)) hd hr) hQ hk hn
theorem own_retA {Qc : Option Value → Heap → List Loc → Prop} {k n : Nat} (X : Stand p l e R s m args below meth c T locs cells slots) (hx : p.tables.exec = Jvm.exec) (hlk : meth.locks = false) {t : FieldType} (hret : meth.sig.returnType = some t) (ht : t.isReference = true) {pc : Nat} {Ls : Array Slot} {w : Value} (hw : w.isRef = true)
    (hd : decode c.code pc = .ok (.areturn, 1)) (hQ : Qc (some w) T.heap locs) (hk : cells ≤ k) (hn : slots ≤ n) : own_Go p e below (own_Post s Qc k n) (T.setTop (mkF m pc Ls [w])) :=
  own_end X hlk (fun q => by rw [hret] at q; cases q) (fun fs hr => X.areturnOut hx hw hret ht hd hr) hQ hk hn
theorem own_retV {Qc : Option Value → Heap → List Loc → Prop} {k n : Nat} (X : Stand p l e R s m args below meth c T locs cells slots) (hx : p.tables.exec = Jvm.exec) (hlk : meth.locks = false) (hret : meth.sig.returnType = none) {pc : Nat} {Ls : Array Slot}
    (hd : decode c.code pc = .ok (.return_, 1)) (hQ : Qc none T.heap locs) (hk : cells ≤ k) (hn : slots ≤ n) : own_Go p e below (own_Post s Qc k n) (T.setTop (mkF m pc Ls [])) :=
  own_end X hlk (fun _ => rfl) (fun fs hr => X.returnOut hx hret hd hr) hQ hk hn
/-- a callee's contract, as own_body proves it and the three calls below spend it -/
abbrev own_Met (l : Launch) (Z : State) (y : MethodName) (bytes : ByteArray) (maxL : Nat) (ret : Option FieldType) (rm : Room) (as' : Array Value) (h0 : Heap) (Qc : Option Value → Heap → List Loc → Prop) : Prop :=
  MetFree l y (head1 [Jvm.Cond.code y bytes maxL ret] rm) (fun a U => a = as' ∧ Z.Warmed39 U.vm ∧ U.heap = h0) (fun _ _ _ _ _ => True) (fun _ U o U' => own_Post U Qc rm.cells rm.slots o U')
theorem own_callS (X : Stand p l e R s m args below meth c T locs cells slots) (hx : p.tables.exec = Jvm.exec) (hZ : Z.Warmed39 s.vm) {own : String} {index : Nat} {y : MethodName} {bytes : ByteArray} {maxL : Nat} {ret : Option FieldType} {rm : Room} {Qc : Option Value → Heap → List Loc → Prop} {argsL rest : List Value} {ps : List FieldType} {W : Nat} {g : JFrame}
    (hM : own_Met l Z y bytes maxL ret rm argsL.toArray h Qc) (hown : s.vm.findClass own = some m.cls) (w1 : (Jvm.Cond.methodLink own index y).before a0 Z = true) (w2 : (Jvm.Cond.static y).before a0 Z = true) (w3 : (Jvm.Cond.initialized y.cls).before a0 Z = true) (w4 : (Jvm.Cond.code y bytes maxL ret).before a0 Z = true)
    (hy : y.cls ≠ "java/lang/invoke/MethodHandle" ∧ y.cls ≠ "java/lang/invoke/VarHandle") (eT : T.heap = h) (hg : g.method = m) (hsize : g.locals.size = c.maxLocals) (hdesc : parseMethodDescriptor y.desc = some ⟨ps, ret⟩) (hlen : argsL.length = ps.length) (hstack : g.stack = argsL.reverse ++ rest)
    (hW : 2 * g.monitorRoom + (rest.map fun v => v.category).sum ≤ W) (hdg : decode c.code g.pc = .ok (.invokestatic index, 3)) (hf : rm.frames + 1 ≤ R.frames) (hl : W + (maxL + 11) + rm.locals ≤ R.locals) (hc : cells + rm.cells ≤ R.cells) (hs : slots + rm.slots ≤ R.slots) :
    ∃ v T' L, Stand p l e R s m args below meth c T' (locs ++ L) (cells + rm.cells) (slots + rm.slots) ∧ Qc v T'.heap L ∧ ∀ target, Steps p.tables e below (T'.setTop { g with pc := g.pc + 3, stack := v.toList ++ rest }) target → Steps p.tables e below (T.setTop g) target := by
  obtain ⟨v, _, ⟨T1, L1, k1, n1⟩, -, X1, ⟨L, hQ, q1, q2, q3⟩, st⟩ := Jvm.LawKit.callS X hx (y := y) hown (mvT hZ w1) (mvT hZ w2) (mvT hZ w3) (mvT hZ w4) hy (backOf (W := W) hM hZ w4 w3 hf hl) (g := g) hg hsize (lenOf hdesc hlen) hstack hW hdg (fun _ _ => ⟨rfl, eT, hc, hs⟩)
  dsimp only [Pt.U, Pt.locs, Pt.cells, Pt.slots] at X1 q1 q2 q3 st hQ
  subst q1 q2 q3
  exact ⟨v, T1, L, X1, hQ, st⟩
theorem own_callI (X : Stand p l e R s m args below meth c T locs cells slots) (hx : p.tables.exec = Jvm.exec) (hZ : Z.Warmed39 s.vm) {own : String} {index : Nat} {y : MethodName} {bytes : ByteArray} {maxL : Nat} {rm : Room} {Qc : Option Value → Heap → List Loc → Prop} {a : Addr} {argsL rest : List Value} {ps : List FieldType} {W : Nat} {g : JFrame}
    (hM : own_Met l Z y bytes maxL none rm (.ref a :: argsL).toArray h Qc) (hn : y.name = "<init>") (hown : s.vm.findClass own = some m.cls) (w1 : (Jvm.Cond.methodLink own index y).before a0 Z = true) (w2 : (Jvm.Cond.instanceMethod y).before a0 Z = true) (w3 : (Jvm.Cond.initialized y.cls).before a0 Z = true) (w4 : (Jvm.Cond.code y bytes maxL none).before a0 Z = true)
    (hy : y.cls ≠ "java/lang/invoke/MethodHandle" ∧ y.cls ≠ "java/lang/invoke/VarHandle") (eT : T.heap = h) (hg : g.method = m) (hsize : g.locals.size = c.maxLocals) (hdesc : parseMethodDescriptor y.desc = some ⟨ps, none⟩) (hlen : argsL.length = ps.length) (hstack : g.stack = argsL.reverse ++ .ref a :: rest)
    (hW : 2 * g.monitorRoom + (rest.map fun v => v.category).sum ≤ W) (hdg : decode c.code g.pc = .ok (.invokespecial index, 3)) (hf : rm.frames + 1 ≤ R.frames) (hl : W + (maxL + 11) + rm.locals ≤ R.locals) (hc : cells + rm.cells ≤ R.cells) (hs : slots + rm.slots ≤ R.slots) :
    ∃ v T' L, Stand p l e R s m args below meth c T' (locs ++ L) (cells + rm.cells) (slots + rm.slots) ∧ Qc v T'.heap L ∧ ∀ target, Steps p.tables e below (T'.setTop { g with pc := g.pc + 3, stack := v.toList ++ rest }) target → Steps p.tables e below (T.setTop g) target := by
  obtain ⟨v, _, ⟨T1, L1, k1, n1⟩, -, X1, ⟨L, hQ, q1, q2, q3⟩, st⟩ := X.specialBack hx (y := y) hn hown (mvT hZ w1) (mvT hZ w2) (mvT hZ w4) hy (backOf (W := W) hM hZ w4 w3 hf hl) (g := g) hg hsize (Steps.refl _) (a := a) (lenOf hdesc hlen) hstack hW hdg (fun _ _ => ⟨rfl, eT, hc, hs⟩)
  dsimp only [Pt.U, Pt.locs, Pt.cells, Pt.slots] at X1 q1 q2 q3 st hQ
  subst q1 q2 q3
  exact ⟨v, T1, L, X1, hQ, fun _ q => st.trans q⟩
theorem own_callV (X : Stand p l e R s m args below meth c T locs cells slots) (hx : p.tables.exec = Jvm.exec) (hZ : Z.Warmed39 s.vm) {own : String} {index : Nat} {y : MethodName} {bytes : ByteArray} {maxL : Nat} {ret : Option FieldType} {rm : Room} {Qc : Option Value → Heap → List Loc → Prop} {a : Addr} {argsL rest : List Value} {ps : List FieldType} {W : Nat} {g : JFrame}
    (hM : own_Met l Z y bytes maxL ret rm (.ref a :: argsL).toArray h Qc) (E : Exa Z h a y.cls) (hown : s.vm.findClass own = some m.cls) (w1 : (Jvm.Cond.methodLink own index y).before a0 Z = true) (w2 : (Jvm.Cond.declares y).before a0 Z = true) (w3 : (Jvm.Cond.selects y.cls y y).before a0 Z = true) (w4 : (Jvm.Cond.instanceMethod y).before a0 Z = true) (w5 : (Jvm.Cond.initialized y.cls).before a0 Z = true) (w6 : (Jvm.Cond.code y bytes maxL ret).before a0 Z = true)
    (hy : y.cls ≠ "java/lang/invoke/MethodHandle" ∧ y.cls ≠ "java/lang/invoke/VarHandle") (eT : T.heap = h) (hg : g.method = m) (hsize : g.locals.size = c.maxLocals) (hdesc : parseMethodDescriptor y.desc = some ⟨ps, ret⟩) (hlen : argsL.length = ps.length) (hstack : g.stack = argsL.reverse ++ .ref a :: rest)
    (hW : 2 * g.monitorRoom + (rest.map fun v => v.category).sum ≤ W) (hdg : decode c.code g.pc = .ok (.invokevirtual index, 3)) (hf : rm.frames + 1 ≤ R.frames) (hl : W + (maxL + 11) + rm.locals ≤ R.locals) (hc : cells + rm.cells ≤ R.cells) (hs : slots + rm.slots ≤ R.slots) :
    ∃ v T' L, Stand p l e R s m args below meth c T' (locs ++ L) (cells + rm.cells) (slots + rm.slots) ∧ Qc v T'.heap L ∧ ∀ target, Steps p.tables e below (T'.setTop { g with pc := g.pc + 3, stack := v.toList ++ rest }) target → Steps p.tables e below (T.setTop g) target := by
  obtain ⟨cq, kq, qa, qb, qc⟩ := isOf hZ eT E
  obtain ⟨v, _, ⟨T1, L1, k1, n1⟩, -, X1, ⟨L, hQ, q1, q2, q3⟩, st⟩ := X.virtualBack hx (y := y) (z := y) hown (mvT hZ w1) (mvT hZ w2) (notFace_of_selects (args := #[]) (mvT hZ w3)) (mvT hZ w3) (mvT hZ w4) hy (backOf (W := W) hM hZ w6 w5 hf hl) qa qc (g := g) hg hsize (Steps.refl _) (lenOf hdesc hlen) hstack hW hdg (fun _ _ => ⟨rfl, eT, hc, hs⟩)
  dsimp only [Pt.U, Pt.locs, Pt.cells, Pt.slots] at X1 q1 q2 q3 st hQ
  subst q1 q2 q3
  exact ⟨v, T1, L, X1, hQ, fun _ q => st.trans q⟩
/-- what a body that writes nothing leaves -/
abbrev own_P (v : Option Value) (h : Heap) : Option Value → Heap → List Loc → Prop := fun w h' L => w = v ∧ L = [] ∧ h' = h
theorem own_flat (X : Stand p l e R s m args below meth c T (locs ++ []) (cells + 0) (slots + 0)) : Stand p l e R s m args below meth c T locs cells slots := by
  rw [List.append_nil] at X
  exact X
def own_c32 : ClassFile.Cond → Int32 → Int32 → Bool
  | .lt, x, y => decide (x < y)
  | .ge, x, y => !decide (x < y)
  | .gt, x, y => decide (y < x)
  | .le, x, y => !decide (y < x)
  | .eq, x, y => decide (x = y)
  | .ne, x, y => !decide (x = y)
def own_c64 : ClassFile.Cond → Int64 → Int64 → Bool
  | .lt, x, y => decide (x < y)
  | .ge, x, y => !decide (x < y)
  | .gt, x, y => decide (y < x)
  | .le, x, y => !decide (y < x)
  | .eq, x, y => decide (x = y)
  | .ne, x, y => !decide (x = y)
theorem own_yes {P : Prop} [Decidable P] (q : P) : decide P = true := decide_eq_true q
theorem own_no {P : Prop} [Decidable P] (q : ¬ P) : decide P = false := decide_eq_false q
theorem own_nyes {P : Prop} [Decidable P] (q : P) : (!decide P) = false := by rw [decide_eq_true q]; rfl
theorem own_nno {P : Prop} [Decidable P] (q : ¬ P) : (!decide P) = true := by rw [decide_eq_false q]; rfl
theorem own_i2 (cd : ClassFile.Cond) (x y : Int32) : if_icmp.holds cd x y = own_c32 cd x y := by
  cases cd
  case lt => by_cases q : x < y; · exact (tlt q).1.trans (own_yes q).symm
             · exact (flt q).1.trans (own_no q).symm
  case ge => by_cases q : x < y; · exact (tlt q).2.1.trans (own_nyes q).symm
             · exact (flt q).2.1.trans (own_nno q).symm
  case gt => by_cases q : y < x; · exact (tlt q).2.2.1.trans (own_yes q).symm
             · exact (flt q).2.2.1.trans (own_no q).symm
  case le => by_cases q : y < x; · exact (tlt q).2.2.2.trans (own_nyes q).symm
             · exact (flt q).2.2.2.trans (own_nno q).symm
  case eq => by_cases q : x = y; · exact (teq q).1.trans (own_yes q).symm
             · exact (feq q).1.trans (own_no q).symm
  case ne => by_cases q : x = y; · exact (teq q).2.trans (own_nyes q).symm
             · exact (feq q).2.trans (own_nno q).symm
theorem own_i0 (cd : ClassFile.Cond) (x : Int32) : ifCond.holds cd x = own_c32 cd x 0 := (if0 cd x).trans (own_i2 cd x 0)
theorem own_l0 (cd : ClassFile.Cond) (x y : Int64) : ifCond.holds cd (lcmpW x y) = own_c64 cd x y := by
  rw [own_i0]
  have q1 := lw_lt x y
  have q2 := lw_gt x y
  have q3 := lw_eq x y
  cases cd <;> simp only [own_c32, own_c64, q1, q2, q3]
theorem own_ldI {a : Addr} {k : ClassId} {z j : Int32} {vs : List Value} {dv : Value} (F : Arv Z h a k .int z vs dv) (q : ¬ j < 0 ∧ j < z) : ∃ (cl : Cell) (v : Int32), Arr Z h a cl .int ∧ ¬ (j < 0 ∨ cl.slots.size ≤ j.toNatClampNeg) ∧ cl.slots[j.toNatClampNeg]? = some (.int v) := by
  obtain ⟨cl, A, -, S, M, H, G⟩ := F
  have hin := inb_of S q
  have hlt : j.toNatClampNeg < cl.slots.size := Nat.lt_of_not_le fun y => hin (Or.inr y)
  obtain ⟨v, hv⟩ := fit_I (G _ hlt) (Or.inl rfl)
  exact ⟨cl, v, A, hin, by rw [H _ hlt, hv]⟩
theorem own_len {a : Addr} {k : ClassId} {ty : FieldType} {z : Int32} {vs : List Value} {dv : Value} (F : Arv Z h a k ty z vs dv) : ∃ cl : Cell, Arr Z h a cl ty ∧ cl.slots.size = z.toNatClampNeg ∧ ¬ z < 0 := by
  obtain ⟨cl, A, -, S, M, -, -⟩ := F
  exact ⟨cl, A, S, M⟩
theorem own_at {a : Addr} {k : ClassId} {ty : FieldType} {z j : Int32} {vs : List Value} {dv : Value} (F : Arv Z h a k ty z vs dv) (q : ¬ j < 0 ∧ j < z) {i : Nat} (hj : j.toNatClampNeg = i) {v : Value} (hv : vs.getD i dv = v) : ∃ cl : Cell, Arr Z h a cl ty ∧ ¬ (j < 0 ∨ cl.slots.size ≤ j.toNatClampNeg) ∧ cl.slots[j.toNatClampNeg]? = some v := by
  obtain ⟨cl, A, -, S, M, H, -⟩ := F
  have hin := inb_of S q
  have hlt : j.toNatClampNeg < cl.slots.size := Nat.lt_of_not_le fun y => hin (Or.inr y)
  refine ⟨cl, A, hin, ?_⟩
  rw [H _ hlt, hj, hv]
end OwnKit

theorem pd_0 : parseMethodDescriptor "(JI)I" = some ⟨[.long, .int], some .int⟩ := by decide +kernel
theorem pd_1 : parseMethodDescriptor "([B)I" = some ⟨[(.array .byte)], some .int⟩ := by decide +kernel
def own_c_20 (q0 : Int64) (p1 : Int32) : Int32 := (0 : Int32)
def own_c_0 (q0 : Int64) (p1 : Int32) : Int32 := (if (((q0.toUInt64 >>> ((((8 : Int32) * p1) + (7 : Int32)) &&& 0x3f).toInt64.toUInt64).toInt64) &&& (1 : Int64)) = (0 : Int64) then (1 : Int32) else (own_c_20 q0 p1))
theorem d1_0 : decode method_2_code 0 = .ok (.lload_n 0, 1) := by decide +kernel
theorem d1_1 : decode method_2_code 1 = .ok (.bipush 8, 2) := by decide +kernel
theorem d1_3 : decode method_2_code 3 = .ok (.iload_n 2, 1) := by decide +kernel
theorem d1_4 : decode method_2_code 4 = .ok (.imul, 1) := by decide +kernel
theorem d1_5 : decode method_2_code 5 = .ok (.bipush 7, 2) := by decide +kernel
theorem d1_7 : decode method_2_code 7 = .ok (.iadd, 1) := by decide +kernel
theorem d1_8 : decode method_2_code 8 = .ok (.lushr, 1) := by decide +kernel
theorem d1_9 : decode method_2_code 9 = .ok (.lconst 1, 1) := by decide +kernel
theorem d1_10 : decode method_2_code 10 = .ok (.land, 1) := by decide +kernel
theorem d1_11 : decode method_2_code 11 = .ok (.lconst 0, 1) := by decide +kernel
theorem d1_12 : decode method_2_code 12 = .ok (.lcmp, 1) := by decide +kernel
theorem d1_13 : decode method_2_code 13 = .ok (.ifCond .ne 7, 3) := by decide +kernel
theorem d1_16 : decode method_2_code 16 = .ok (.iconst 1, 1) := by decide +kernel
theorem d1_17 : decode method_2_code 17 = .ok (.goto 4, 3) := by decide +kernel
theorem d1_20 : decode method_2_code 20 = .ok (.iconst 0, 1) := by decide +kernel
theorem d1_21 : decode method_2_code 21 = .ok (.ireturn, 1) := by decide +kernel
theorem pn_1 : plainFor (⟨"com/example/stratum_codecs/stratumcodecs/OrdinalListsCountPinLaw", "clear", "(JI)I"⟩ : MethodName) = true := plainFor_of_name (by first | (simp [plainName, overriddenIn]; done) | decide +kernel)
theorem ef_1 (m : MethodId) (x0 : Int64) (x1 : Int32) : entryFrame m #[(.long x0), (.int x1)] 3 = mkF m 0 #[.val (.long x0), .second, .val (.int x1)] [] := by first | (simp [entryFrame, mkF, argsToLocals, Value.category]; done) | rfl
set_option maxRecDepth 65536 in
set_option maxHeartbeats 40000000 in
theorem rm1 (l : Launch) (Z : State) (tA : Array Value) (hw : ∀ d ∈ tables_1, d.before tA Z = true) (q0 : Int64) (p1 : Int32) (h0 : Heap) :
    own_Met l Z (⟨"com/example/stratum_codecs/stratumcodecs/OrdinalListsCountPinLaw", "clear", "(JI)I"⟩ : MethodName) method_2_code 3 (some .int) ({ frames := 0, cells := 0, slots := 0, locals := 0 } : Room) #[(.long q0), (.int p1)] h0 (own_P (some (.int (own_c_0 q0 p1))) h0) := by
  refine own_body pn_1 ?_
  intro p e s m below meth c s₁ X0 hx hZ hby hml hown hret hlk hnm e0
  have B20 : ∀ (T0 : State), Stand p l e ({ frames := 0, cells := 0, slots := 0, locals := 0 } : Room) s m #[(.long q0), (.int p1)] below meth c T0 [] 0 0 → T0.heap = h0 → own_c_20 q0 p1 = own_c_0 q0 p1 → own_Go p e below (own_Post s (own_P (some (.int (own_c_0 q0 p1))) h0) ({ frames := 0, cells := 0, slots := 0, locals := 0 } : Room).cells ({ frames := 0, cells := 0, slots := 0, locals := 0 } : Room).slots) (T0.setTop (mkF m 20 #[.val (.long q0), .second, .val (.int p1)] [])) := by
    intro T0 X0 e0 hbk
    show own_Go p e below _ (T0.setTop (mkF m 20 #[.val (.long q0), .second, .val (.int p1)] []))
    refine own_st (fun _ k => XS.iconst X0.here hx rfl (hb hby d1_20) k) ?_
    show own_Go p e below _ (T0.setTop (mkF m 21 #[.val (.long q0), .second, .val (.int p1)] [(.int (0 : Int32))]))
    exact own_retI X0 hx hlk hret (hb hby d1_21) ⟨congrArg (fun z => some (Value.int z)) ((show own_c_20 q0 p1 = (0 : Int32) from rfl).symm.trans hbk), rfl, e0⟩ (by decide) (by decide)
  have B0 : ∀ (T0 : State), Stand p l e ({ frames := 0, cells := 0, slots := 0, locals := 0 } : Room) s m #[(.long q0), (.int p1)] below meth c T0 [] 0 0 → T0.heap = h0 → own_c_0 q0 p1 = own_c_0 q0 p1 → own_Go p e below (own_Post s (own_P (some (.int (own_c_0 q0 p1))) h0) ({ frames := 0, cells := 0, slots := 0, locals := 0 } : Room).cells ({ frames := 0, cells := 0, slots := 0, locals := 0 } : Room).slots) (T0.setTop (mkF m 0 #[.val (.long q0), .second, .val (.int p1)] [])) := by
    intro T0 X0 e0 hbk
    show own_Go p e below _ (T0.setTop (mkF m 0 #[.val (.long q0), .second, .val (.int p1)] []))
    refine own_st (fun _ k => XS.lloadN X0.here hx rfl (hb hby d1_0) rfl k) ?_
    show own_Go p e below _ (T0.setTop (mkF m 1 #[.val (.long q0), .second, .val (.int p1)] [(.long q0)]))
    refine own_st (fun _ k => XS.bipush X0.here hx rfl (hb hby d1_1) k) ?_
    show own_Go p e below _ (T0.setTop (mkF m 3 #[.val (.long q0), .second, .val (.int p1)] [(.int (8 : Int32)), (.long q0)]))
    refine own_st (fun _ k => XS.iloadN X0.here hx rfl (hb hby d1_3) rfl k) ?_
    show own_Go p e below _ (T0.setTop (mkF m 4 #[.val (.long q0), .second, .val (.int p1)] [(.int p1), (.int (8 : Int32)), (.long q0)]))
    refine own_st (fun _ k => XS.imul X0.here hx rfl (hb hby d1_4) rfl k) ?_
    show own_Go p e below _ (T0.setTop (mkF m 5 #[.val (.long q0), .second, .val (.int p1)] [(.int ((8 : Int32) * p1)), (.long q0)]))
    refine own_st (fun _ k => XS.bipush X0.here hx rfl (hb hby d1_5) k) ?_
    show own_Go p e below _ (T0.setTop (mkF m 7 #[.val (.long q0), .second, .val (.int p1)] [(.int (7 : Int32)), (.int ((8 : Int32) * p1)), (.long q0)]))
    refine own_st (fun _ k => XS.iadd X0.here hx rfl (hb hby d1_7) rfl k) ?_
    show own_Go p e below _ (T0.setTop (mkF m 8 #[.val (.long q0), .second, .val (.int p1)] [(.int (((8 : Int32) * p1) + (7 : Int32))), (.long q0)]))
    refine own_st (fun _ k => XS.lushr X0.here hx rfl (hb hby d1_8) rfl k) ?_
    show own_Go p e below _ (T0.setTop (mkF m 9 #[.val (.long q0), .second, .val (.int p1)] [(.long ((q0.toUInt64 >>> ((((8 : Int32) * p1) + (7 : Int32)) &&& 0x3f).toInt64.toUInt64).toInt64))]))
    refine own_st (fun _ k => XS.lconst X0.here hx rfl (hb hby d1_9) k) ?_
    show own_Go p e below _ (T0.setTop (mkF m 10 #[.val (.long q0), .second, .val (.int p1)] [(.long (1 : Int64)), (.long ((q0.toUInt64 >>> ((((8 : Int32) * p1) + (7 : Int32)) &&& 0x3f).toInt64.toUInt64).toInt64))]))
    refine own_st (fun _ k => XS.land X0.here hx rfl (hb hby d1_10) rfl k) ?_
    show own_Go p e below _ (T0.setTop (mkF m 11 #[.val (.long q0), .second, .val (.int p1)] [(.long (((q0.toUInt64 >>> ((((8 : Int32) * p1) + (7 : Int32)) &&& 0x3f).toInt64.toUInt64).toInt64) &&& (1 : Int64)))]))
    refine own_st (fun _ k => XS.lconst X0.here hx rfl (hb hby d1_11) k) ?_
    show own_Go p e below _ (T0.setTop (mkF m 12 #[.val (.long q0), .second, .val (.int p1)] [(.long (0 : Int64)), (.long (((q0.toUInt64 >>> ((((8 : Int32) * p1) + (7 : Int32)) &&& 0x3f).toInt64.toUInt64).toInt64) &&& (1 : Int64)))]))
    refine own_st (fun _ k => XS.lcmp X0.here hx rfl (hb hby d1_12) rfl k) ?_
    show own_Go p e below _ (T0.setTop (mkF m 13 #[.val (.long q0), .second, .val (.int p1)] [(.int (lcmpW (((q0.toUInt64 >>> ((((8 : Int32) * p1) + (7 : Int32)) &&& 0x3f).toInt64.toUInt64).toInt64) &&& (1 : Int64)) (0 : Int64)))]))
    by_cases hc13 : (((q0.toUInt64 >>> ((((8 : Int32) * p1) + (7 : Int32)) &&& 0x3f).toInt64.toUInt64).toInt64) &&& (1 : Int64)) = (0 : Int64)
    · refine own_st (fun _ k => XS.ifNo X0.here hx rfl (hb hby d1_13) rfl ((own_l0 _ _ _).trans (own_nyes (hc13 : (((q0.toUInt64 >>> ((((8 : Int32) * p1) + (7 : Int32)) &&& 0x3f).toInt64.toUInt64).toInt64) &&& (1 : Int64)) = (0 : Int64)))) k) ?_
      show own_Go p e below _ (T0.setTop (mkF m 16 #[.val (.long q0), .second, .val (.int p1)] []))
      refine own_st (fun _ k => XS.iconst X0.here hx rfl (hb hby d1_16) k) ?_
      show own_Go p e below _ (T0.setTop (mkF m 17 #[.val (.long q0), .second, .val (.int p1)] [(.int (1 : Int32))]))
      refine own_st (fun _ k => XS.goto X0.here hx rfl (pc0 := 17) (pc' := 21) rfl (hb hby d1_17) (by decide) (by decide) k) ?_
      show own_Go p e below _ (T0.setTop (mkF m 21 #[.val (.long q0), .second, .val (.int p1)] [(.int (1 : Int32))]))
      exact own_retI X0 hx hlk hret (hb hby d1_21) ⟨congrArg (fun z => some (Value.int z)) ((show own_c_0 q0 p1 = (1 : Int32) from (if_pos hc13)).symm.trans hbk), rfl, e0⟩ (by decide) (by decide)
    · refine own_st (fun _ k => XS.ifYes X0.here hx rfl (pc0 := 13) (pc' := 20) rfl (hb hby d1_13) rfl ((own_l0 _ _ _).trans (own_nno (hc13 : ¬ ((((q0.toUInt64 >>> ((((8 : Int32) * p1) + (7 : Int32)) &&& 0x3f).toInt64.toUInt64).toInt64) &&& (1 : Int64)) = (0 : Int64))))) (by decide) (by decide) k) ?_
      show own_Go p e below _ (T0.setTop (mkF m 20 #[.val (.long q0), .second, .val (.int p1)] []))
      exact B20 T0 X0 e0 ((show own_c_0 q0 p1 = own_c_20 q0 p1 from (if_neg hc13)).symm.trans hbk)
  rw [ef_1]
  exact B0 _ X0 e0 rfl
def own_cnt : Int32 → List Int32 → Int32
  | s, [] => s
  | s, x :: t => own_cnt (if x < 0 then s else s + 1) t
theorem own_cnt_lt {x s : Int32} {t : List Int32} (h : x < 0) : own_cnt s (x :: t) = own_cnt s t := congrArg (fun z => own_cnt z t) (if_pos h)
theorem own_cnt_ge {x s : Int32} {t : List Int32} (h : ¬ x < 0) : own_cnt s (x :: t) = own_cnt (s + 1) t := congrArg (fun z => own_cnt z t) (if_neg h)
theorem own_os {z0 z1 z2 z3 z4 : Value} {o : Slot} {v : Int32} (h : One o) : storeLocals #[.val z0, .val z1, .val z2, .val z3, .val z4, o] 5 (.int v) = some #[.val z0, .val z1, .val z2, .val z3, .val z4, .val (.int v)] := by
  rcases h with rfl | ⟨w, rfl, hw⟩
  · rfl
  · cases w <;> first | rfl | (simp [Value.category] at hw)
theorem own_drop {xs t : List Int32} {y : Int32} {j : Nat} (h : xs.drop j = y :: t) : (xs.map Value.int).getD j (.int 0) = .int y ∧ xs.drop (j + 1) = t ∧ j < xs.length := by
  have hj : j < xs.length := by
    apply Nat.lt_of_not_le
    intro q
    rw [List.drop_eq_nil_of_le q] at h
    cases h
  have e := List.drop_eq_getElem_cons hj
  rw [h] at e
  have e1 := (List.cons.inj e).1
  have e2 := (List.cons.inj e).2
  refine ⟨?_, e2.symm, hj⟩
  rw [List.getD_eq_getElem?_getD, List.getElem?_map, List.getElem?_eq_getElem hj, ← e1]
  rfl
theorem own_clamp {i : Int32} {j : Nat} (h : i.toInt = (j : Int)) : i.toNatClampNeg = j ∧ ¬ i < 0 := by
  have h0 : ¬ i < 0 := by
    rw [Int32.lt_iff_toInt_lt]
    have e : (0 : Int32).toInt = 0 := rfl
    omega
  have e := nat_of h0
  exact ⟨by omega, h0⟩
theorem d2_0 : decode prog_85_method_3_code 0 = .ok (.iconst 0, 1) := by decide +kernel
theorem d2_1 : decode prog_85_method_3_code 1 = .ok (.istore_n 1, 1) := by decide +kernel
theorem d2_2 : decode prog_85_method_3_code 2 = .ok (.aload_n 0, 1) := by decide +kernel
theorem d2_3 : decode prog_85_method_3_code 3 = .ok (.astore_n 2, 1) := by decide +kernel
theorem d2_4 : decode prog_85_method_3_code 4 = .ok (.aload_n 2, 1) := by decide +kernel
theorem d2_5 : decode prog_85_method_3_code 5 = .ok (.arraylength, 1) := by decide +kernel
theorem d2_6 : decode prog_85_method_3_code 6 = .ok (.istore_n 3, 1) := by decide +kernel
theorem d2_7 : decode prog_85_method_3_code 7 = .ok (.iconst 0, 1) := by decide +kernel
theorem d2_8 : decode prog_85_method_3_code 8 = .ok (.istore 4, 2) := by decide +kernel
theorem d2_10 : decode prog_85_method_3_code 10 = .ok (.iload 4, 2) := by decide +kernel
theorem d2_12 : decode prog_85_method_3_code 12 = .ok (.iload_n 3, 1) := by decide +kernel
theorem d2_13 : decode prog_85_method_3_code 13 = .ok (.if_icmp .ge 23, 3) := by decide +kernel
theorem d2_16 : decode prog_85_method_3_code 16 = .ok (.aload_n 2, 1) := by decide +kernel
theorem d2_17 : decode prog_85_method_3_code 17 = .ok (.iload 4, 2) := by decide +kernel
theorem d2_19 : decode prog_85_method_3_code 19 = .ok (.baload, 1) := by decide +kernel
theorem d2_20 : decode prog_85_method_3_code 20 = .ok (.istore 5, 2) := by decide +kernel
theorem d2_22 : decode prog_85_method_3_code 22 = .ok (.iload 5, 2) := by decide +kernel
theorem d2_24 : decode prog_85_method_3_code 24 = .ok (.ifCond .lt 6, 3) := by decide +kernel
theorem d2_27 : decode prog_85_method_3_code 27 = .ok (.iinc 1 1, 3) := by decide +kernel
theorem d2_30 : decode prog_85_method_3_code 30 = .ok (.iinc 4 1, 3) := by decide +kernel
theorem d2_33 : decode prog_85_method_3_code 33 = .ok (.goto (-23), 3) := by decide +kernel
theorem d2_36 : decode prog_85_method_3_code 36 = .ok (.iload_n 1, 1) := by decide +kernel
theorem d2_37 : decode prog_85_method_3_code 37 = .ok (.ireturn, 1) := by decide +kernel
theorem pn_2 : plainFor (⟨"com/example/stratum_codecs/stratumcodecs/OrdinalLists", "count", "([B)I"⟩ : MethodName) = true := plainFor_of_name (by first | (simp [plainName, overriddenIn]; done) | decide +kernel)
theorem ef_2 (m : MethodId) (x0 : Addr) : entryFrame m #[(.ref x0)] 6 = mkF m 0 #[.val (.ref x0), .unset, .unset, .unset, .unset, .unset] [] := by first | (simp [entryFrame, mkF, argsToLocals, Value.category]; done) | rfl
set_option maxRecDepth 65536 in
set_option maxHeartbeats 40000000 in
theorem rm2 (l : Launch) (Z : State) (tA : Array Value) (hw : ∀ d ∈ tables_1, d.before tA Z = true) (a0 : Addr) (kc : ClassId) (N : Int32) (xs : List Int32) (h0 : Heap) (hN : N.toInt = (xs.length : Int)) (V0 : Arv Z h0 a0 kc .byte N (xs.map Value.int) (.int (0 : Int32))) :
    own_Met l Z (⟨"com/example/stratum_codecs/stratumcodecs/OrdinalLists", "count", "([B)I"⟩ : MethodName) prog_85_method_3_code 6 (some .int) ({ frames := 0, cells := 0, slots := 0, locals := 0 } : Room) #[(.ref a0)] h0 (own_P (some (.int (own_cnt (0 : Int32) xs))) h0) := by
  refine own_body pn_2 ?_
  intro p e s m below meth c s₁ X0 hx hZ hby hml hown hret hlk hnm e0
  have loop : ∀ (ys : List Int32) (j : Nat) (i s' : Int32) (o5 : Slot) (T0 : State), Stand p l e ({ frames := 0, cells := 0, slots := 0, locals := 0 } : Room) s m #[(.ref a0)] below meth c T0 [] 0 0 → T0.heap = h0 → One o5 → i.toInt = (j : Int) → xs.drop j = ys → own_cnt s' ys = own_cnt (0 : Int32) xs → own_Go p e below (own_Post s (own_P (some (.int (own_cnt (0 : Int32) xs))) h0) ({ frames := 0, cells := 0, slots := 0, locals := 0 } : Room).cells ({ frames := 0, cells := 0, slots := 0, locals := 0 } : Room).slots) (T0.setTop (mkF m 10 #[.val (.ref a0), .val (.int s'), .val (.ref a0), .val (.int N), .val (.int i), o5] [])) := by
    intro ys
    induction ys with
    | nil =>
      intro j i s' o5 T0 X0 e0 h5 hi hd hr
      have hlen : xs.length ≤ j := List.drop_eq_nil_iff.mp hd
      have hge : ¬ i < N := by rw [Int32.lt_iff_toInt_lt]; omega
      show own_Go p e below _ (T0.setTop (mkF m 10 #[.val (.ref a0), .val (.int s'), .val (.ref a0), .val (.int N), .val (.int i), o5] []))
      refine own_st (fun _ k => XS.iload X0.here hx rfl (hb hby d2_10) rfl k) ?_
      show own_Go p e below _ (T0.setTop (mkF m 12 #[.val (.ref a0), .val (.int s'), .val (.ref a0), .val (.int N), .val (.int i), o5] [(.int i)]))
      refine own_st (fun _ k => XS.iloadN X0.here hx rfl (hb hby d2_12) rfl k) ?_
      show own_Go p e below _ (T0.setTop (mkF m 13 #[.val (.ref a0), .val (.int s'), .val (.ref a0), .val (.int N), .val (.int i), o5] [(.int N), (.int i)]))
      refine own_st (fun _ k => XS.icmpYes X0.here hx rfl (pc0 := 13) (pc' := 36) rfl (hb hby d2_13) rfl ((own_i2 _ _ _).trans (own_nno (hge : ¬ (i < N)))) (by decide) (by decide) k) ?_
      show own_Go p e below _ (T0.setTop (mkF m 36 #[.val (.ref a0), .val (.int s'), .val (.ref a0), .val (.int N), .val (.int i), o5] []))
      refine own_st (fun _ k => XS.iloadN X0.here hx rfl (hb hby d2_36) rfl k) ?_
      show own_Go p e below _ (T0.setTop (mkF m 37 #[.val (.ref a0), .val (.int s'), .val (.ref a0), .val (.int N), .val (.int i), o5] [(.int s')]))
      exact own_retI X0 hx hlk hret (hb hby d2_37) ⟨congrArg (fun z => some (Value.int z)) hr, rfl, e0⟩ (by decide) (by decide)
    | cons y t ih =>
      intro j i s' o5 T0 X0 e0 h5 hi hd hr
      obtain ⟨hy, ht, hj⟩ := own_drop hd
      obtain ⟨hic, hi0⟩ := own_clamp hi
      have hlt : i < N := by rw [Int32.lt_iff_toInt_lt]; omega
      have hi1 : (i + (1 : Int32)).toInt = ((j + 1 : Nat) : Int) := by
        have k1 := c_iadd i 1
        have k2 := rng32 (i + 1)
        have k3 : (1 : Int32).toInt = 1 := rfl
        have k4 := rng32 N
        omega
      show own_Go p e below _ (T0.setTop (mkF m 10 #[.val (.ref a0), .val (.int s'), .val (.ref a0), .val (.int N), .val (.int i), o5] []))
      refine own_st (fun _ k => XS.iload X0.here hx rfl (hb hby d2_10) rfl k) ?_
      show own_Go p e below _ (T0.setTop (mkF m 12 #[.val (.ref a0), .val (.int s'), .val (.ref a0), .val (.int N), .val (.int i), o5] [(.int i)]))
      refine own_st (fun _ k => XS.iloadN X0.here hx rfl (hb hby d2_12) rfl k) ?_
      show own_Go p e below _ (T0.setTop (mkF m 13 #[.val (.ref a0), .val (.int s'), .val (.ref a0), .val (.int N), .val (.int i), o5] [(.int N), (.int i)]))
      refine own_st (fun _ k => XS.icmpNo X0.here hx rfl (hb hby d2_13) rfl ((own_i2 _ _ _).trans (own_nyes (hlt : i < N))) k) ?_
      show own_Go p e below _ (T0.setTop (mkF m 16 #[.val (.ref a0), .val (.int s'), .val (.ref a0), .val (.int N), .val (.int i), o5] []))
      refine own_st (fun _ k => XS.aloadN X0.here hx rfl (hb hby d2_16) rfl rfl k) ?_
      show own_Go p e below _ (T0.setTop (mkF m 17 #[.val (.ref a0), .val (.int s'), .val (.ref a0), .val (.int N), .val (.int i), o5] [(.ref a0)]))
      refine own_st (fun _ k => XS.iload X0.here hx rfl (hb hby d2_17) rfl k) ?_
      show own_Go p e below _ (T0.setTop (mkF m 19 #[.val (.ref a0), .val (.int s'), .val (.ref a0), .val (.int N), .val (.int i), o5] [(.int i), (.ref a0)]))
      obtain ⟨cl1, Ar1, hin1, hat1⟩ := own_at V0 (j := i) ⟨hi0, hlt⟩ hic hy
      refine own_st (fun _ k => X0.baloadBytes hx (j := i) (v := (.int y)) (by rw [e0]; exact Ar1.1) (State.isArrayOf_alike hZ.alike Ar1.2.1) Ar1.2.2 hin1 hat1 (g := (mkF m 19 #[.val (.ref a0), .val (.int s'), .val (.ref a0), .val (.int N), .val (.int i), o5] [(.int i), (.ref a0)])) rfl rfl (hb hby d2_19) _ k) ?_
      show own_Go p e below _ (T0.setTop (mkF m 20 #[.val (.ref a0), .val (.int s'), .val (.ref a0), .val (.int N), .val (.int i), o5] [(.int y)]))
      refine own_st (fun _ k => XS.istore X0.here hx rfl (hb hby d2_20) rfl (l' := #[.val (.ref a0), .val (.int s'), .val (.ref a0), .val (.int N), .val (.int i), .val (.int y)]) (own_os h5) k) ?_
      show own_Go p e below _ (T0.setTop (mkF m 22 #[.val (.ref a0), .val (.int s'), .val (.ref a0), .val (.int N), .val (.int i), .val (.int y)] []))
      refine own_st (fun _ k => XS.iload X0.here hx rfl (hb hby d2_22) rfl k) ?_
      show own_Go p e below _ (T0.setTop (mkF m 24 #[.val (.ref a0), .val (.int s'), .val (.ref a0), .val (.int N), .val (.int i), .val (.int y)] [(.int y)]))
      by_cases hc24 : y < (0 : Int32)
      · refine own_st (fun _ k => XS.ifYes X0.here hx rfl (pc0 := 24) (pc' := 30) rfl (hb hby d2_24) rfl ((own_i0 _ _).trans (own_yes (hc24 : y < (0 : Int32)))) (by decide) (by decide) k) ?_
        show own_Go p e below _ (T0.setTop (mkF m 30 #[.val (.ref a0), .val (.int s'), .val (.ref a0), .val (.int N), .val (.int i), .val (.int y)] []))
        refine own_st (fun _ k => XS.iinc X0.here hx rfl (hb hby d2_30) rfl (l' := #[.val (.ref a0), .val (.int s'), .val (.ref a0), .val (.int N), .val (.int (i + (1 : Int32))), .val (.int y)]) rfl k) ?_
        show own_Go p e below _ (T0.setTop (mkF m 33 #[.val (.ref a0), .val (.int s'), .val (.ref a0), .val (.int N), .val (.int (i + (1 : Int32))), .val (.int y)] []))
        refine own_st (fun _ k => XS.goto X0.here hx rfl (pc0 := 33) (pc' := 10) rfl (hb hby d2_33) (by decide) (by decide) k) ?_
        show own_Go p e below _ (T0.setTop (mkF m 10 #[.val (.ref a0), .val (.int s'), .val (.ref a0), .val (.int N), .val (.int (i + (1 : Int32))), .val (.int y)] []))
        exact ih (j + 1) _ _ _ _ X0 e0 (One.val rfl) hi1 ht ((own_cnt_lt hc24).symm.trans hr)
      · refine own_st (fun _ k => XS.ifNo X0.here hx rfl (hb hby d2_24) rfl ((own_i0 _ _).trans (own_no (hc24 : ¬ (y < (0 : Int32))))) k) ?_
        show own_Go p e below _ (T0.setTop (mkF m 27 #[.val (.ref a0), .val (.int s'), .val (.ref a0), .val (.int N), .val (.int i), .val (.int y)] []))
        refine own_st (fun _ k => XS.iinc X0.here hx rfl (hb hby d2_27) rfl (l' := #[.val (.ref a0), .val (.int (s' + (1 : Int32))), .val (.ref a0), .val (.int N), .val (.int i), .val (.int y)]) rfl k) ?_
        show own_Go p e below _ (T0.setTop (mkF m 30 #[.val (.ref a0), .val (.int (s' + (1 : Int32))), .val (.ref a0), .val (.int N), .val (.int i), .val (.int y)] []))
        refine own_st (fun _ k => XS.iinc X0.here hx rfl (hb hby d2_30) rfl (l' := #[.val (.ref a0), .val (.int (s' + (1 : Int32))), .val (.ref a0), .val (.int N), .val (.int (i + (1 : Int32))), .val (.int y)]) rfl k) ?_
        show own_Go p e below _ (T0.setTop (mkF m 33 #[.val (.ref a0), .val (.int (s' + (1 : Int32))), .val (.ref a0), .val (.int N), .val (.int (i + (1 : Int32))), .val (.int y)] []))
        refine own_st (fun _ k => XS.goto X0.here hx rfl (pc0 := 33) (pc' := 10) rfl (hb hby d2_33) (by decide) (by decide) k) ?_
        show own_Go p e below _ (T0.setTop (mkF m 10 #[.val (.ref a0), .val (.int (s' + (1 : Int32))), .val (.ref a0), .val (.int N), .val (.int (i + (1 : Int32))), .val (.int y)] []))
        exact ih (j + 1) _ _ _ _ X0 e0 (One.val rfl) hi1 ht ((own_cnt_ge hc24).symm.trans hr)
  rw [ef_2]
  show own_Go p e below _ (s₁.setTop (mkF m 0 #[.val (.ref a0), .unset, .unset, .unset, .unset, .unset] []))
  refine own_st (fun _ k => XS.iconst X0.here hx rfl (hb hby d2_0) k) ?_
  show own_Go p e below _ (s₁.setTop (mkF m 1 #[.val (.ref a0), .unset, .unset, .unset, .unset, .unset] [(.int (0 : Int32))]))
  refine own_st (fun _ k => XS.istoreN X0.here hx rfl (hb hby d2_1) rfl (l' := #[.val (.ref a0), .val (.int (0 : Int32)), .unset, .unset, .unset, .unset]) rfl k) ?_
  show own_Go p e below _ (s₁.setTop (mkF m 2 #[.val (.ref a0), .val (.int (0 : Int32)), .unset, .unset, .unset, .unset] []))
  refine own_st (fun _ k => XS.aloadN X0.here hx rfl (hb hby d2_2) rfl rfl k) ?_
  show own_Go p e below _ (s₁.setTop (mkF m 3 #[.val (.ref a0), .val (.int (0 : Int32)), .unset, .unset, .unset, .unset] [(.ref a0)]))
  refine own_st (fun _ k => XS.astoreN X0.here hx rfl (hb hby d2_3) rfl rfl (l' := #[.val (.ref a0), .val (.int (0 : Int32)), .val (.ref a0), .unset, .unset, .unset]) rfl k) ?_
  show own_Go p e below _ (s₁.setTop (mkF m 4 #[.val (.ref a0), .val (.int (0 : Int32)), .val (.ref a0), .unset, .unset, .unset] []))
  refine own_st (fun _ k => XS.aloadN X0.here hx rfl (hb hby d2_4) rfl rfl k) ?_
  show own_Go p e below _ (s₁.setTop (mkF m 5 #[.val (.ref a0), .val (.int (0 : Int32)), .val (.ref a0), .unset, .unset, .unset] [(.ref a0)]))
  obtain ⟨cl1, Ar1, S1, M1⟩ := own_len V0
  refine own_st (fun _ k => X0.arraylength hx (by rw [e0]; exact Ar1.1) (State.isArrayOf_alike hZ.alike Ar1.2.1) (g := (mkF m 5 #[.val (.ref a0), .val (.int (0 : Int32)), .val (.ref a0), .unset, .unset, .unset] [(.ref a0)])) rfl rfl (hb hby d2_5) _ k) ?_
  rw [len_of S1 M1]
  show own_Go p e below _ (s₁.setTop (mkF m 6 #[.val (.ref a0), .val (.int (0 : Int32)), .val (.ref a0), .unset, .unset, .unset] [(.int N)]))
  refine own_st (fun _ k => XS.istoreN X0.here hx rfl (hb hby d2_6) rfl (l' := #[.val (.ref a0), .val (.int (0 : Int32)), .val (.ref a0), .val (.int N), .unset, .unset]) rfl k) ?_
  show own_Go p e below _ (s₁.setTop (mkF m 7 #[.val (.ref a0), .val (.int (0 : Int32)), .val (.ref a0), .val (.int N), .unset, .unset] []))
  refine own_st (fun _ k => XS.iconst X0.here hx rfl (hb hby d2_7) k) ?_
  show own_Go p e below _ (s₁.setTop (mkF m 8 #[.val (.ref a0), .val (.int (0 : Int32)), .val (.ref a0), .val (.int N), .unset, .unset] [(.int (0 : Int32))]))
  refine own_st (fun _ k => XS.istore X0.here hx rfl (hb hby d2_8) rfl (l' := #[.val (.ref a0), .val (.int (0 : Int32)), .val (.ref a0), .val (.int N), .val (.int (0 : Int32)), .unset]) rfl k) ?_
  show own_Go p e below _ (s₁.setTop (mkF m 10 #[.val (.ref a0), .val (.int (0 : Int32)), .val (.ref a0), .val (.int N), .val (.int (0 : Int32)), .unset] []))
  exact loop xs 0 (0 : Int32) (0 : Int32) .unset s₁ X0 e0 One.u rfl rfl rfl
/-! the plain law -/
abbrev own_by (x : Int32) : Int32 := nar .byte (x.toInt8.toInt32)
theorem own_byt (x : Int32) : ((own_by x).toInt - x.toInt) % 256 = 0 ∧ -128 ≤ (own_by x).toInt ∧ (own_by x).toInt < 128 := by
  have k1 := c_i2b x
  have k2 := c_i2b x.toInt8.toInt32
  have e : own_by x = x.toInt8.toInt32.toInt8.toInt32 := rfl
  rw [e]
  omega
theorem own_neg (x : Int32) : own_by x < 0 ↔ 128 ≤ x.toInt % 256 := by
  have k := own_byt x
  have e : (0 : Int32).toInt = 0 := rfl
  rw [Int32.lt_iff_toInt_lt, e]
  omega
theorem own_b7 (n : Nat) : n &&& 128 = n / 128 % 2 * 128 := by
  have e1 : (n &&& 128) % 2 ^ 7 = 0 := by rw [Nat.and_mod_two_pow]; exact Nat.and_zero _
  have e2 : (n &&& 128) / 2 ^ 7 = n / 128 % 2 := by
    rw [← Nat.shiftRight_eq_div_pow, Nat.shiftRight_and_distrib, Nat.shiftRight_eq_div_pow]
    exact Nat.and_one_is_mod _
  omega
theorem own_bit (x : Int32) : (x &&& (128 : Int32)) = 0 ↔ ¬ 128 ≤ x.toInt % 256 := by
  have e1 : (x &&& (128 : Int32)).toBitVec.toNat = x.toBitVec.toNat / 128 % 2 * 128 := by
    rw [Int32.toBitVec_and, BitVec.toNat_and]
    exact own_b7 x.toBitVec.toNat
  have e2 : x.toInt % 256 = ((x.toBitVec.toNat % 256 : Nat) : Int) := by
    have d : x.toInt = x.toBitVec.toInt := rfl
    have l := x.toBitVec.isLt
    rw [d, BitVec.toInt_eq_toNat_cond]
    by_cases u : 2 * x.toBitVec.toNat < 2 ^ 32
    · rw [if_pos u]; omega
    · rw [if_neg u]; omega
  rw [e2]
  constructor
  · intro h q
    have e3 := congrArg (fun z : Int32 => z.toBitVec.toNat) h
    simp only [e1] at e3
    have e5 : (0 : Int32).toBitVec.toNat = 0 := rfl
    omega
  · intro h
    apply Int32.toBitVec_inj.mp
    apply BitVec.eq_of_toNat_eq
    rw [e1]
    show _ = 0
    omega
theorem own_one0 (b : Int32) (h : (b &&& (128 : Int32)) = 0) : own_cnt (0 : Int32) [own_by b] = 1 := own_cnt_ge fun q => (own_bit b).mp h ((own_neg b).mp q)
theorem own_one1 (b : Int32) (h : ¬ (b &&& (128 : Int32)) = 0) : own_cnt (0 : Int32) [own_by b] = 0 := own_cnt_lt ((own_neg b).mpr (by
  by_cases q : 128 ≤ b.toInt % 256
  · exact q
  · exact absurd ((own_bit b).mpr q) h))
theorem own_top (w : Int64) (i : Int32) (k : Nat) (P : Int) (hk : ((8 : Int32) * i + 7).toBitVec.toNat % 64 = k) (h0 : 0 < k) (hP : ((2 ^ k : Nat) : Int) = P) : own_c_0 w i = if ((w.toInt % 18446744073709551616) / P) % 2 = 0 then 1 else 0 := by
  have e1 := c_lushr w ((8 : Int32) * i + 7) k hk h0
  rw [hP] at e1
  have e2 := c_maskL ((w.toUInt64 >>> (((8 : Int32) * i + 7) &&& 0x3f).toInt64.toUInt64).toInt64) (1 : Int64) 1 (by decide) (by decide)
  rw [e1] at e2
  have e3 : (0 : Int64).toInt = 0 := rfl
  by_cases h : ((w.toInt % 18446744073709551616) / P) % 2 = 0
  · rw [if_pos h]
    exact if_pos (Int64.toInt_inj.mp (by rw [e2, e3]; exact h))
  · rw [if_neg h]
    exact if_neg fun q => h (by rw [q, e3] at e2; exact e2.symm)
theorem own_stp (x s c : Int32) (t : List Int32) (Q : Prop) [Decidable Q] (hc : c = if Q then 1 else 0) (h : own_by x < 0 ↔ ¬ Q) : own_cnt s (own_by x :: t) = own_cnt (s + c) t := by
  by_cases q : Q
  · rw [hc, if_pos q]
    exact own_cnt_ge fun z => (h.mp z) q
  · rw [hc, if_neg q, Int32.add_zero]
    exact own_cnt_lt (h.mpr q)
theorem own_e0 (q0 : Int64) (s : Int32) (t : List Int32) : own_cnt s (own_by (q0.toInt32) :: t) = own_cnt (s + own_c_0 q0 (0 : Int32)) t := by
  refine own_stp _ s _ t (((q0.toInt % 18446744073709551616) / 128) % 2 = 0) (own_top q0 0 7 128 (by decide) (by decide) (by decide)) ?_
  rw [own_neg]
  have e2 := c_l2i q0
  omega
theorem own_e1 (q0 : Int64) (s : Int32) (t : List Int32) : own_cnt s (own_by (((q0.toUInt64 >>> ((8 : Int32) &&& 0x3f).toInt64.toUInt64).toInt64).toInt32) :: t) = own_cnt (s + own_c_0 q0 (1 : Int32)) t := by
  refine own_stp _ s _ t (((q0.toInt % 18446744073709551616) / 32768) % 2 = 0) (own_top q0 1 15 32768 (by decide) (by decide) (by decide)) ?_
  rw [own_neg]
  have e1 := c_lushr q0 (8 : Int32) 8 (by decide) (by decide)
  have e3 : ((2 ^ 8 : Nat) : Int) = 256 := by decide
  rw [e3] at e1
  have e2 := c_l2i ((q0.toUInt64 >>> ((8 : Int32) &&& 0x3f).toInt64.toUInt64).toInt64)
  rw [e1] at e2
  omega
theorem own_e2 (q0 : Int64) (s : Int32) (t : List Int32) : own_cnt s (own_by (((q0.toUInt64 >>> ((16 : Int32) &&& 0x3f).toInt64.toUInt64).toInt64).toInt32) :: t) = own_cnt (s + own_c_0 q0 (2 : Int32)) t := by
  refine own_stp _ s _ t (((q0.toInt % 18446744073709551616) / 8388608) % 2 = 0) (own_top q0 2 23 8388608 (by decide) (by decide) (by decide)) ?_
  rw [own_neg]
  have e1 := c_lushr q0 (16 : Int32) 16 (by decide) (by decide)
  have e3 : ((2 ^ 16 : Nat) : Int) = 65536 := by decide
  rw [e3] at e1
  have e2 := c_l2i ((q0.toUInt64 >>> ((16 : Int32) &&& 0x3f).toInt64.toUInt64).toInt64)
  rw [e1] at e2
  omega
theorem own_e3 (q0 : Int64) (s : Int32) (t : List Int32) : own_cnt s (own_by (((q0.toUInt64 >>> ((24 : Int32) &&& 0x3f).toInt64.toUInt64).toInt64).toInt32) :: t) = own_cnt (s + own_c_0 q0 (3 : Int32)) t := by
  refine own_stp _ s _ t (((q0.toInt % 18446744073709551616) / 2147483648) % 2 = 0) (own_top q0 3 31 2147483648 (by decide) (by decide) (by decide)) ?_
  rw [own_neg]
  have e1 := c_lushr q0 (24 : Int32) 24 (by decide) (by decide)
  have e3 : ((2 ^ 24 : Nat) : Int) = 16777216 := by decide
  rw [e3] at e1
  have e2 := c_l2i ((q0.toUInt64 >>> ((24 : Int32) &&& 0x3f).toInt64.toUInt64).toInt64)
  rw [e1] at e2
  omega
theorem own_e4 (q0 : Int64) (s : Int32) (t : List Int32) : own_cnt s (own_by (((q0.toUInt64 >>> ((32 : Int32) &&& 0x3f).toInt64.toUInt64).toInt64).toInt32) :: t) = own_cnt (s + own_c_0 q0 (4 : Int32)) t := by
  refine own_stp _ s _ t (((q0.toInt % 18446744073709551616) / 549755813888) % 2 = 0) (own_top q0 4 39 549755813888 (by decide) (by decide) (by decide)) ?_
  rw [own_neg]
  have e1 := c_lushr q0 (32 : Int32) 32 (by decide) (by decide)
  have e3 : ((2 ^ 32 : Nat) : Int) = 4294967296 := by decide
  rw [e3] at e1
  have e2 := c_l2i ((q0.toUInt64 >>> ((32 : Int32) &&& 0x3f).toInt64.toUInt64).toInt64)
  rw [e1] at e2
  omega
theorem own_e5 (q0 : Int64) (s : Int32) (t : List Int32) : own_cnt s (own_by (((q0.toUInt64 >>> ((40 : Int32) &&& 0x3f).toInt64.toUInt64).toInt64).toInt32) :: t) = own_cnt (s + own_c_0 q0 (5 : Int32)) t := by
  refine own_stp _ s _ t (((q0.toInt % 18446744073709551616) / 140737488355328) % 2 = 0) (own_top q0 5 47 140737488355328 (by decide) (by decide) (by decide)) ?_
  rw [own_neg]
  have e1 := c_lushr q0 (40 : Int32) 40 (by decide) (by decide)
  have e3 : ((2 ^ 40 : Nat) : Int) = 1099511627776 := by decide
  rw [e3] at e1
  have e2 := c_l2i ((q0.toUInt64 >>> ((40 : Int32) &&& 0x3f).toInt64.toUInt64).toInt64)
  rw [e1] at e2
  omega
theorem own_e6 (q0 : Int64) (s : Int32) (t : List Int32) : own_cnt s (own_by (((q0.toUInt64 >>> ((48 : Int32) &&& 0x3f).toInt64.toUInt64).toInt64).toInt32) :: t) = own_cnt (s + own_c_0 q0 (6 : Int32)) t := by
  refine own_stp _ s _ t (((q0.toInt % 18446744073709551616) / 36028797018963968) % 2 = 0) (own_top q0 6 55 36028797018963968 (by decide) (by decide) (by decide)) ?_
  rw [own_neg]
  have e1 := c_lushr q0 (48 : Int32) 48 (by decide) (by decide)
  have e3 : ((2 ^ 48 : Nat) : Int) = 281474976710656 := by decide
  rw [e3] at e1
  have e2 := c_l2i ((q0.toUInt64 >>> ((48 : Int32) &&& 0x3f).toInt64.toUInt64).toInt64)
  rw [e1] at e2
  omega
theorem own_e7 (q0 : Int64) (s : Int32) (t : List Int32) : own_cnt s (own_by (((q0.toUInt64 >>> ((56 : Int32) &&& 0x3f).toInt64.toUInt64).toInt64).toInt32) :: t) = own_cnt (s + own_c_0 q0 (7 : Int32)) t := by
  refine own_stp _ s _ t (((q0.toInt % 18446744073709551616) / 9223372036854775808) % 2 = 0) (own_top q0 7 63 9223372036854775808 (by decide) (by decide) (by decide)) ?_
  rw [own_neg]
  have e1 := c_lushr q0 (56 : Int32) 56 (by decide) (by decide)
  have e3 : ((2 ^ 56 : Nat) : Int) = 72057594037927936 := by decide
  rw [e3] at e1
  have e2 := c_l2i ((q0.toUInt64 >>> ((56 : Int32) &&& 0x3f).toInt64.toUInt64).toInt64)
  rw [e1] at e2
  omega
theorem own_eight (q0 : Int64) : own_cnt (0 : Int32) [own_by (q0.toInt32), own_by (((q0.toUInt64 >>> ((8 : Int32) &&& 0x3f).toInt64.toUInt64).toInt64).toInt32), own_by (((q0.toUInt64 >>> ((16 : Int32) &&& 0x3f).toInt64.toUInt64).toInt64).toInt32), own_by (((q0.toUInt64 >>> ((24 : Int32) &&& 0x3f).toInt64.toUInt64).toInt64).toInt32), own_by (((q0.toUInt64 >>> ((32 : Int32) &&& 0x3f).toInt64.toUInt64).toInt64).toInt32), own_by (((q0.toUInt64 >>> ((40 : Int32) &&& 0x3f).toInt64.toUInt64).toInt64).toInt32), own_by (((q0.toUInt64 >>> ((48 : Int32) &&& 0x3f).toInt64.toUInt64).toInt64).toInt32), own_by (((q0.toUInt64 >>> ((56 : Int32) &&& 0x3f).toInt64.toUInt64).toInt64).toInt32)] = (((((((own_c_0 q0 (0 : Int32) + own_c_0 q0 (1 : Int32)) + own_c_0 q0 (2 : Int32)) + own_c_0 q0 (3 : Int32)) + own_c_0 q0 (4 : Int32)) + own_c_0 q0 (5 : Int32)) + own_c_0 q0 (6 : Int32)) + own_c_0 q0 (7 : Int32)) := by
  rw [own_e0, own_e1, own_e2, own_e3, own_e4, own_e5, own_e6, own_e7, Int32.zero_add]
  rfl
theorem pn_0 : plainFor (⟨"com/example/stratum_codecs/stratumcodecs/OrdinalListsCountPinLaw", "law", "(JI)Z"⟩ : MethodName) = true := plainFor_of_name (by first | (simp [plainName, overriddenIn]; done) | decide +kernel)
theorem ef_0 (m : MethodId) (x0 : Int64) (x1 : Int32) : entryFrame m #[(.long x0), (.int x1)] maxLocals = mkF m 0 #[.val (.long x0), .second, .val (.int x1), .unset, .unset, .unset, .unset, .unset] [] := by first | (simp [entryFrame, mkF, argsToLocals, Value.category, maxLocals]; done) | rfl
set_option maxRecDepth 65536 in
set_option maxHeartbeats 40000000 in
theorem rm0 (l : Launch) (Z : State) (tA : Array Value) (hw : ∀ d ∈ tables_1, d.before tA Z = true) (q0 : Int64) (p1 : Int32) (h0 : Heap) (n0 : Nat) (Z0 : n0 ≤ h0.size) :
    MetFree l x (head1 (Jvm.Cond.code x code maxLocals ret :: tables_1) room_1) (fun a U => a = #[(.long q0), (.int p1)] ∧ Z.Warmed39 U.vm ∧ U.heap = h0) (fun _ _ _ _ _ => True) (fun _ U o U' => own_Post U (fun v _ L => v = some (.int (1 : Int32)) ∧ Fr n0 L) 16 128 o U') := by
  refine own_body pn_0 ?_
  intro p e s m below meth c s₁ X0 hx hZ hby hml hown hret hlk hnm e0
  have N0 := Fr.nil n0
  rw [ef_0]
  show own_Go p e below _ (s₁.setTop (mkF m 0 #[.val (.long q0), .second, .val (.int p1), .unset, .unset, .unset, .unset, .unset] []))
  refine own_st (fun _ k => XS.iconst X0.here hx rfl (hb hby at_0) k) ?_
  show own_Go p e below _ (s₁.setTop (mkF m 1 #[.val (.long q0), .second, .val (.int p1), .unset, .unset, .unset, .unset, .unset] [(.int (0 : Int32))]))
  obtain ⟨T1, h1, k1, X1, e1, E1, A1, st1⟩ := newP X0 hx hZ (hw _ (List.mem_of_getElem? (i := 0) rfl)) e0 (g := (mkF m 1 #[.val (.long q0), .second, .val (.int p1), .unset, .unset, .unset, .unset, .unset] [(.int (0 : Int32))])) rfl (hb hby at_1) rfl (by decide) (cap := 0) (by decide) (by decide) (by decide) (by decide)
  refine own_st st1 ?_
  obtain ⟨b1, g1⟩ : ∃ z, z = h0.size := ⟨_, rfl⟩
  rw [← g1] at A1 ⊢
  have g_b1 : n0 ≤ b1 := Nat.le_trans Z0 (Nat.le_of_eq g1.symm)
  replace Z0 := Nat.le_trans Z0 E1.1
  have V_b1 : Arv Z h1 b1 k1 .byte (0 : Int32) [] (.int (0 : Int32)) := (Arv.new A1 (by decide)).pad (pad_rep [] (.int (0 : Int32)) 0)
  show own_Go p e below _ (T1.setTop (mkF m 3 #[.val (.long q0), .second, .val (.int p1), .unset, .unset, .unset, .unset, .unset] [(.ref b1)]))
  refine own_st (fun _ k => XS.astoreN X1.here hx rfl (hb hby at_3) rfl rfl (l' := #[.val (.long q0), .second, .val (.int p1), .val (.ref b1), .unset, .unset, .unset, .unset]) rfl k) ?_
  show own_Go p e below _ (T1.setTop (mkF m 4 #[.val (.long q0), .second, .val (.int p1), .val (.ref b1), .unset, .unset, .unset, .unset] []))
  refine own_st (fun _ k => XS.iconst X1.here hx rfl (hb hby at_4) k) ?_
  show own_Go p e below _ (T1.setTop (mkF m 5 #[.val (.long q0), .second, .val (.int p1), .val (.ref b1), .unset, .unset, .unset, .unset] [(.int (1 : Int32))]))
  obtain ⟨T2, h2, k2, X2, e2, E2, A2, st2⟩ := newP X1 hx hZ (hw _ (List.mem_of_getElem? (i := 0) rfl)) e1 (g := (mkF m 5 #[.val (.long q0), .second, .val (.int p1), .val (.ref b1), .unset, .unset, .unset, .unset] [(.int (1 : Int32))])) rfl (hb hby at_5) rfl (by decide) (cap := 1) (by decide) (by decide) (by decide) (by decide)
  refine own_st st2 ?_
  obtain ⟨b2, g2⟩ : ∃ z, z = h1.size := ⟨_, rfl⟩
  rw [← g2] at A2 ⊢
  have g_b2 : n0 ≤ b2 := Nat.le_trans Z0 (Nat.le_of_eq g2.symm)
  have ne_b1_b2 : b1 ≠ b2 := Nat.ne_of_lt (Nat.lt_of_lt_of_le V_b1.lt (Nat.le_of_eq g2.symm))
  have ne_b2_b1 : b2 ≠ b1 := Ne.symm ne_b1_b2
  replace V_b1 := V_b1.ext E2
  replace Z0 := Nat.le_trans Z0 E2.1
  have V_b2 : Arv Z h2 b2 k2 .byte (1 : Int32) [(.int (0 : Int32))] (.int (0 : Int32)) := (Arv.new A2 (by decide)).pad (pad_rep [] (.int (0 : Int32)) 1)
  show own_Go p e below _ (T2.setTop (mkF m 7 #[.val (.long q0), .second, .val (.int p1), .val (.ref b1), .unset, .unset, .unset, .unset] [(.ref b2)]))
  refine own_st (fun _ k => XS.astore X2.here hx rfl (hb hby at_7) rfl rfl (l' := #[.val (.long q0), .second, .val (.int p1), .val (.ref b1), .val (.ref b2), .unset, .unset, .unset]) rfl k) ?_
  show own_Go p e below _ (T2.setTop (mkF m 9 #[.val (.long q0), .second, .val (.int p1), .val (.ref b1), .val (.ref b2), .unset, .unset, .unset] []))
  refine own_st (fun _ k => XS.aload X2.here hx rfl (hb hby at_9) rfl rfl k) ?_
  show own_Go p e below _ (T2.setTop (mkF m 11 #[.val (.long q0), .second, .val (.int p1), .val (.ref b1), .val (.ref b2), .unset, .unset, .unset] [(.ref b2)]))
  refine own_st (fun _ k => XS.iconst X2.here hx rfl (hb hby at_11) k) ?_
  show own_Go p e below _ (T2.setTop (mkF m 12 #[.val (.long q0), .second, .val (.int p1), .val (.ref b1), .val (.ref b2), .unset, .unset, .unset] [(.int (0 : Int32)), (.ref b2)]))
  refine own_st (fun _ k => XS.iloadN X2.here hx rfl (hb hby at_12) rfl k) ?_
  show own_Go p e below _ (T2.setTop (mkF m 13 #[.val (.long q0), .second, .val (.int p1), .val (.ref b1), .val (.ref b2), .unset, .unset, .unset] [(.int p1), (.int (0 : Int32)), (.ref b2)]))
  refine own_st (fun _ k => XS.i2b X2.here hx rfl (hb hby at_13) rfl k) ?_
  show own_Go p e below _ (T2.setTop (mkF m 14 #[.val (.long q0), .second, .val (.int p1), .val (.ref b1), .val (.ref b2), .unset, .unset, .unset] [(.int (p1.toInt8.toInt32)), (.int (0 : Int32)), (.ref b2)]))
  obtain ⟨cl3, Ar3, qc3, S3, M3, H3, G3⟩ := V_b2
  obtain ⟨T3, h3, X3, e3, W3, st3⟩ := stB X2 hx hZ e2 Ar3 (j := (0 : Int32)) (inb_of S3 ⟨by decide, by decide⟩) (g := (mkF m 14 #[.val (.long q0), .second, .val (.int p1), .val (.ref b1), .val (.ref b2), .unset, .unset, .unset] [(.int (p1.toInt8.toInt32)), (.int (0 : Int32)), (.ref b2)])) rfl rfl (hb hby at_14)
  refine own_st st3 ?_
  replace V_b1 := V_b1.other W3 ne_b1_b2
  replace Z0 := Nat.le_trans Z0 (Nat.le_of_eq W3.size.symm)
  replace N0 := Fr.snoc X3 N0 g_b2
  have V_b2 : Arv Z h3 b2 k2 .byte (1 : Int32) [(.int (nar .byte (p1.toInt8.toInt32)))] (.int (0 : Int32)) := Arv.set Ar3 qc3 S3 M3 H3 G3 (fits_nar_byte _) W3 0 rfl (Nat.le_of_ble_eq_true rfl)
  show own_Go p e below _ (T3.setTop (mkF m 15 #[.val (.long q0), .second, .val (.int p1), .val (.ref b1), .val (.ref b2), .unset, .unset, .unset] []))
  refine own_st (fun _ k => XS.bipush X3.here hx rfl (hb hby at_15) k) ?_
  show own_Go p e below _ (T3.setTop (mkF m 17 #[.val (.long q0), .second, .val (.int p1), .val (.ref b1), .val (.ref b2), .unset, .unset, .unset] [(.int (8 : Int32))]))
  obtain ⟨T4, h4, k4, X4, e4, E4, A4, st4⟩ := newP X3 hx hZ (hw _ (List.mem_of_getElem? (i := 0) rfl)) e3 (g := (mkF m 17 #[.val (.long q0), .second, .val (.int p1), .val (.ref b1), .val (.ref b2), .unset, .unset, .unset] [(.int (8 : Int32))])) rfl (hb hby at_17) rfl (by decide) (cap := 8) (by decide) (by decide) (by decide) (by decide)
  refine own_st st4 ?_
  obtain ⟨b4, g4⟩ : ∃ z, z = h3.size := ⟨_, rfl⟩
  rw [← g4] at A4 ⊢
  have g_b4 : n0 ≤ b4 := Nat.le_trans Z0 (Nat.le_of_eq g4.symm)
  have ne_b1_b4 : b1 ≠ b4 := Nat.ne_of_lt (Nat.lt_of_lt_of_le V_b1.lt (Nat.le_of_eq g4.symm))
  have ne_b4_b1 : b4 ≠ b1 := Ne.symm ne_b1_b4
  have ne_b2_b4 : b2 ≠ b4 := Nat.ne_of_lt (Nat.lt_of_lt_of_le V_b2.lt (Nat.le_of_eq g4.symm))
  have ne_b4_b2 : b4 ≠ b2 := Ne.symm ne_b2_b4
  replace V_b1 := V_b1.ext E4
  replace V_b2 := V_b2.ext E4
  replace Z0 := Nat.le_trans Z0 E4.1
  have V_b4 : Arv Z h4 b4 k4 .byte (8 : Int32) [(.int (0 : Int32)), (.int (0 : Int32)), (.int (0 : Int32)), (.int (0 : Int32)), (.int (0 : Int32)), (.int (0 : Int32)), (.int (0 : Int32)), (.int (0 : Int32))] (.int (0 : Int32)) := (Arv.new A4 (by decide)).pad (pad_rep [] (.int (0 : Int32)) 8)
  show own_Go p e below _ (T4.setTop (mkF m 19 #[.val (.long q0), .second, .val (.int p1), .val (.ref b1), .val (.ref b2), .unset, .unset, .unset] [(.ref b4)]))
  refine own_st (fun _ k => XS.astore X4.here hx rfl (hb hby at_19) rfl rfl (l' := #[.val (.long q0), .second, .val (.int p1), .val (.ref b1), .val (.ref b2), .val (.ref b4), .unset, .unset]) rfl k) ?_
  show own_Go p e below _ (T4.setTop (mkF m 21 #[.val (.long q0), .second, .val (.int p1), .val (.ref b1), .val (.ref b2), .val (.ref b4), .unset, .unset] []))
  refine own_st (fun _ k => XS.aload X4.here hx rfl (hb hby at_21) rfl rfl k) ?_
  show own_Go p e below _ (T4.setTop (mkF m 23 #[.val (.long q0), .second, .val (.int p1), .val (.ref b1), .val (.ref b2), .val (.ref b4), .unset, .unset] [(.ref b4)]))
  refine own_st (fun _ k => XS.iconst X4.here hx rfl (hb hby at_23) k) ?_
  show own_Go p e below _ (T4.setTop (mkF m 24 #[.val (.long q0), .second, .val (.int p1), .val (.ref b1), .val (.ref b2), .val (.ref b4), .unset, .unset] [(.int (0 : Int32)), (.ref b4)]))
  refine own_st (fun _ k => XS.lloadN X4.here hx rfl (hb hby at_24) rfl k) ?_
  show own_Go p e below _ (T4.setTop (mkF m 25 #[.val (.long q0), .second, .val (.int p1), .val (.ref b1), .val (.ref b2), .val (.ref b4), .unset, .unset] [(.long q0), (.int (0 : Int32)), (.ref b4)]))
  refine own_st (fun _ k => XS.l2i X4.here hx rfl (hb hby at_25) rfl k) ?_
  show own_Go p e below _ (T4.setTop (mkF m 26 #[.val (.long q0), .second, .val (.int p1), .val (.ref b1), .val (.ref b2), .val (.ref b4), .unset, .unset] [(.int (q0.toInt32)), (.int (0 : Int32)), (.ref b4)]))
  refine own_st (fun _ k => XS.i2b X4.here hx rfl (hb hby at_26) rfl k) ?_
  show own_Go p e below _ (T4.setTop (mkF m 27 #[.val (.long q0), .second, .val (.int p1), .val (.ref b1), .val (.ref b2), .val (.ref b4), .unset, .unset] [(.int ((q0.toInt32).toInt8.toInt32)), (.int (0 : Int32)), (.ref b4)]))
  obtain ⟨cl5, Ar5, qc5, S5, M5, H5, G5⟩ := V_b4
  obtain ⟨T5, h5, X5, e5, W5, st5⟩ := stB X4 hx hZ e4 Ar5 (j := (0 : Int32)) (inb_of S5 ⟨by decide, by decide⟩) (g := (mkF m 27 #[.val (.long q0), .second, .val (.int p1), .val (.ref b1), .val (.ref b2), .val (.ref b4), .unset, .unset] [(.int ((q0.toInt32).toInt8.toInt32)), (.int (0 : Int32)), (.ref b4)])) rfl rfl (hb hby at_27)
  refine own_st st5 ?_
  replace V_b1 := V_b1.other W5 ne_b1_b4
  replace V_b2 := V_b2.other W5 ne_b2_b4
  replace Z0 := Nat.le_trans Z0 (Nat.le_of_eq W5.size.symm)
  replace N0 := Fr.snoc X5 N0 g_b4
  have V_b4 : Arv Z h5 b4 k4 .byte (8 : Int32) [(.int (nar .byte ((q0.toInt32).toInt8.toInt32))), (.int (0 : Int32)), (.int (0 : Int32)), (.int (0 : Int32)), (.int (0 : Int32)), (.int (0 : Int32)), (.int (0 : Int32)), (.int (0 : Int32))] (.int (0 : Int32)) := Arv.set Ar5 qc5 S5 M5 H5 G5 (fits_nar_byte _) W5 0 rfl (Nat.le_of_ble_eq_true rfl)
  show own_Go p e below _ (T5.setTop (mkF m 28 #[.val (.long q0), .second, .val (.int p1), .val (.ref b1), .val (.ref b2), .val (.ref b4), .unset, .unset] []))
  refine own_st (fun _ k => XS.aload X5.here hx rfl (hb hby at_28) rfl rfl k) ?_
  show own_Go p e below _ (T5.setTop (mkF m 30 #[.val (.long q0), .second, .val (.int p1), .val (.ref b1), .val (.ref b2), .val (.ref b4), .unset, .unset] [(.ref b4)]))
  refine own_st (fun _ k => XS.iconst X5.here hx rfl (hb hby at_30) k) ?_
  show own_Go p e below _ (T5.setTop (mkF m 31 #[.val (.long q0), .second, .val (.int p1), .val (.ref b1), .val (.ref b2), .val (.ref b4), .unset, .unset] [(.int (1 : Int32)), (.ref b4)]))
  refine own_st (fun _ k => XS.lloadN X5.here hx rfl (hb hby at_31) rfl k) ?_
  show own_Go p e below _ (T5.setTop (mkF m 32 #[.val (.long q0), .second, .val (.int p1), .val (.ref b1), .val (.ref b2), .val (.ref b4), .unset, .unset] [(.long q0), (.int (1 : Int32)), (.ref b4)]))
  refine own_st (fun _ k => XS.bipush X5.here hx rfl (hb hby at_32) k) ?_
  show own_Go p e below _ (T5.setTop (mkF m 34 #[.val (.long q0), .second, .val (.int p1), .val (.ref b1), .val (.ref b2), .val (.ref b4), .unset, .unset] [(.int (8 : Int32)), (.long q0), (.int (1 : Int32)), (.ref b4)]))
  refine own_st (fun _ k => XS.lushr X5.here hx rfl (hb hby at_34) rfl k) ?_
  show own_Go p e below _ (T5.setTop (mkF m 35 #[.val (.long q0), .second, .val (.int p1), .val (.ref b1), .val (.ref b2), .val (.ref b4), .unset, .unset] [(.long ((q0.toUInt64 >>> ((8 : Int32) &&& 0x3f).toInt64.toUInt64).toInt64)), (.int (1 : Int32)), (.ref b4)]))
  refine own_st (fun _ k => XS.l2i X5.here hx rfl (hb hby at_35) rfl k) ?_
  show own_Go p e below _ (T5.setTop (mkF m 36 #[.val (.long q0), .second, .val (.int p1), .val (.ref b1), .val (.ref b2), .val (.ref b4), .unset, .unset] [(.int (((q0.toUInt64 >>> ((8 : Int32) &&& 0x3f).toInt64.toUInt64).toInt64).toInt32)), (.int (1 : Int32)), (.ref b4)]))
  refine own_st (fun _ k => XS.i2b X5.here hx rfl (hb hby at_36) rfl k) ?_
  show own_Go p e below _ (T5.setTop (mkF m 37 #[.val (.long q0), .second, .val (.int p1), .val (.ref b1), .val (.ref b2), .val (.ref b4), .unset, .unset] [(.int ((((q0.toUInt64 >>> ((8 : Int32) &&& 0x3f).toInt64.toUInt64).toInt64).toInt32).toInt8.toInt32)), (.int (1 : Int32)), (.ref b4)]))
  obtain ⟨cl6, Ar6, qc6, S6, M6, H6, G6⟩ := V_b4
  obtain ⟨T6, h6, X6, e6, W6, st6⟩ := stB X5 hx hZ e5 Ar6 (j := (1 : Int32)) (inb_of S6 ⟨by decide, by decide⟩) (g := (mkF m 37 #[.val (.long q0), .second, .val (.int p1), .val (.ref b1), .val (.ref b2), .val (.ref b4), .unset, .unset] [(.int ((((q0.toUInt64 >>> ((8 : Int32) &&& 0x3f).toInt64.toUInt64).toInt64).toInt32).toInt8.toInt32)), (.int (1 : Int32)), (.ref b4)])) rfl rfl (hb hby at_37)
  refine own_st st6 ?_
  replace V_b1 := V_b1.other W6 ne_b1_b4
  replace V_b2 := V_b2.other W6 ne_b2_b4
  replace Z0 := Nat.le_trans Z0 (Nat.le_of_eq W6.size.symm)
  replace N0 := Fr.snoc X6 N0 g_b4
  have V_b4 : Arv Z h6 b4 k4 .byte (8 : Int32) [(.int (nar .byte ((q0.toInt32).toInt8.toInt32))), (.int (nar .byte ((((q0.toUInt64 >>> ((8 : Int32) &&& 0x3f).toInt64.toUInt64).toInt64).toInt32).toInt8.toInt32))), (.int (0 : Int32)), (.int (0 : Int32)), (.int (0 : Int32)), (.int (0 : Int32)), (.int (0 : Int32)), (.int (0 : Int32))] (.int (0 : Int32)) := Arv.set Ar6 qc6 S6 M6 H6 G6 (fits_nar_byte _) W6 1 rfl (Nat.le_of_ble_eq_true rfl)
  show own_Go p e below _ (T6.setTop (mkF m 38 #[.val (.long q0), .second, .val (.int p1), .val (.ref b1), .val (.ref b2), .val (.ref b4), .unset, .unset] []))
  refine own_st (fun _ k => XS.aload X6.here hx rfl (hb hby at_38) rfl rfl k) ?_
  show own_Go p e below _ (T6.setTop (mkF m 40 #[.val (.long q0), .second, .val (.int p1), .val (.ref b1), .val (.ref b2), .val (.ref b4), .unset, .unset] [(.ref b4)]))
  refine own_st (fun _ k => XS.iconst X6.here hx rfl (hb hby at_40) k) ?_
  show own_Go p e below _ (T6.setTop (mkF m 41 #[.val (.long q0), .second, .val (.int p1), .val (.ref b1), .val (.ref b2), .val (.ref b4), .unset, .unset] [(.int (2 : Int32)), (.ref b4)]))
  refine own_st (fun _ k => XS.lloadN X6.here hx rfl (hb hby at_41) rfl k) ?_
  show own_Go p e below _ (T6.setTop (mkF m 42 #[.val (.long q0), .second, .val (.int p1), .val (.ref b1), .val (.ref b2), .val (.ref b4), .unset, .unset] [(.long q0), (.int (2 : Int32)), (.ref b4)]))
  refine own_st (fun _ k => XS.bipush X6.here hx rfl (hb hby at_42) k) ?_
  show own_Go p e below _ (T6.setTop (mkF m 44 #[.val (.long q0), .second, .val (.int p1), .val (.ref b1), .val (.ref b2), .val (.ref b4), .unset, .unset] [(.int (16 : Int32)), (.long q0), (.int (2 : Int32)), (.ref b4)]))
  refine own_st (fun _ k => XS.lushr X6.here hx rfl (hb hby at_44) rfl k) ?_
  show own_Go p e below _ (T6.setTop (mkF m 45 #[.val (.long q0), .second, .val (.int p1), .val (.ref b1), .val (.ref b2), .val (.ref b4), .unset, .unset] [(.long ((q0.toUInt64 >>> ((16 : Int32) &&& 0x3f).toInt64.toUInt64).toInt64)), (.int (2 : Int32)), (.ref b4)]))
  refine own_st (fun _ k => XS.l2i X6.here hx rfl (hb hby at_45) rfl k) ?_
  show own_Go p e below _ (T6.setTop (mkF m 46 #[.val (.long q0), .second, .val (.int p1), .val (.ref b1), .val (.ref b2), .val (.ref b4), .unset, .unset] [(.int (((q0.toUInt64 >>> ((16 : Int32) &&& 0x3f).toInt64.toUInt64).toInt64).toInt32)), (.int (2 : Int32)), (.ref b4)]))
  refine own_st (fun _ k => XS.i2b X6.here hx rfl (hb hby at_46) rfl k) ?_
  show own_Go p e below _ (T6.setTop (mkF m 47 #[.val (.long q0), .second, .val (.int p1), .val (.ref b1), .val (.ref b2), .val (.ref b4), .unset, .unset] [(.int ((((q0.toUInt64 >>> ((16 : Int32) &&& 0x3f).toInt64.toUInt64).toInt64).toInt32).toInt8.toInt32)), (.int (2 : Int32)), (.ref b4)]))
  obtain ⟨cl7, Ar7, qc7, S7, M7, H7, G7⟩ := V_b4
  obtain ⟨T7, h7, X7, e7, W7, st7⟩ := stB X6 hx hZ e6 Ar7 (j := (2 : Int32)) (inb_of S7 ⟨by decide, by decide⟩) (g := (mkF m 47 #[.val (.long q0), .second, .val (.int p1), .val (.ref b1), .val (.ref b2), .val (.ref b4), .unset, .unset] [(.int ((((q0.toUInt64 >>> ((16 : Int32) &&& 0x3f).toInt64.toUInt64).toInt64).toInt32).toInt8.toInt32)), (.int (2 : Int32)), (.ref b4)])) rfl rfl (hb hby at_47)
  refine own_st st7 ?_
  replace V_b1 := V_b1.other W7 ne_b1_b4
  replace V_b2 := V_b2.other W7 ne_b2_b4
  replace Z0 := Nat.le_trans Z0 (Nat.le_of_eq W7.size.symm)
  replace N0 := Fr.snoc X7 N0 g_b4
  have V_b4 : Arv Z h7 b4 k4 .byte (8 : Int32) [(.int (nar .byte ((q0.toInt32).toInt8.toInt32))), (.int (nar .byte ((((q0.toUInt64 >>> ((8 : Int32) &&& 0x3f).toInt64.toUInt64).toInt64).toInt32).toInt8.toInt32))), (.int (nar .byte ((((q0.toUInt64 >>> ((16 : Int32) &&& 0x3f).toInt64.toUInt64).toInt64).toInt32).toInt8.toInt32))), (.int (0 : Int32)), (.int (0 : Int32)), (.int (0 : Int32)), (.int (0 : Int32)), (.int (0 : Int32))] (.int (0 : Int32)) := Arv.set Ar7 qc7 S7 M7 H7 G7 (fits_nar_byte _) W7 2 rfl (Nat.le_of_ble_eq_true rfl)
  show own_Go p e below _ (T7.setTop (mkF m 48 #[.val (.long q0), .second, .val (.int p1), .val (.ref b1), .val (.ref b2), .val (.ref b4), .unset, .unset] []))
  refine own_st (fun _ k => XS.aload X7.here hx rfl (hb hby at_48) rfl rfl k) ?_
  show own_Go p e below _ (T7.setTop (mkF m 50 #[.val (.long q0), .second, .val (.int p1), .val (.ref b1), .val (.ref b2), .val (.ref b4), .unset, .unset] [(.ref b4)]))
  refine own_st (fun _ k => XS.iconst X7.here hx rfl (hb hby at_50) k) ?_
  show own_Go p e below _ (T7.setTop (mkF m 51 #[.val (.long q0), .second, .val (.int p1), .val (.ref b1), .val (.ref b2), .val (.ref b4), .unset, .unset] [(.int (3 : Int32)), (.ref b4)]))
  refine own_st (fun _ k => XS.lloadN X7.here hx rfl (hb hby at_51) rfl k) ?_
  show own_Go p e below _ (T7.setTop (mkF m 52 #[.val (.long q0), .second, .val (.int p1), .val (.ref b1), .val (.ref b2), .val (.ref b4), .unset, .unset] [(.long q0), (.int (3 : Int32)), (.ref b4)]))
  refine own_st (fun _ k => XS.bipush X7.here hx rfl (hb hby at_52) k) ?_
  show own_Go p e below _ (T7.setTop (mkF m 54 #[.val (.long q0), .second, .val (.int p1), .val (.ref b1), .val (.ref b2), .val (.ref b4), .unset, .unset] [(.int (24 : Int32)), (.long q0), (.int (3 : Int32)), (.ref b4)]))
  refine own_st (fun _ k => XS.lushr X7.here hx rfl (hb hby at_54) rfl k) ?_
  show own_Go p e below _ (T7.setTop (mkF m 55 #[.val (.long q0), .second, .val (.int p1), .val (.ref b1), .val (.ref b2), .val (.ref b4), .unset, .unset] [(.long ((q0.toUInt64 >>> ((24 : Int32) &&& 0x3f).toInt64.toUInt64).toInt64)), (.int (3 : Int32)), (.ref b4)]))
  refine own_st (fun _ k => XS.l2i X7.here hx rfl (hb hby at_55) rfl k) ?_
  show own_Go p e below _ (T7.setTop (mkF m 56 #[.val (.long q0), .second, .val (.int p1), .val (.ref b1), .val (.ref b2), .val (.ref b4), .unset, .unset] [(.int (((q0.toUInt64 >>> ((24 : Int32) &&& 0x3f).toInt64.toUInt64).toInt64).toInt32)), (.int (3 : Int32)), (.ref b4)]))
  refine own_st (fun _ k => XS.i2b X7.here hx rfl (hb hby at_56) rfl k) ?_
  show own_Go p e below _ (T7.setTop (mkF m 57 #[.val (.long q0), .second, .val (.int p1), .val (.ref b1), .val (.ref b2), .val (.ref b4), .unset, .unset] [(.int ((((q0.toUInt64 >>> ((24 : Int32) &&& 0x3f).toInt64.toUInt64).toInt64).toInt32).toInt8.toInt32)), (.int (3 : Int32)), (.ref b4)]))
  obtain ⟨cl8, Ar8, qc8, S8, M8, H8, G8⟩ := V_b4
  obtain ⟨T8, h8, X8, e8, W8, st8⟩ := stB X7 hx hZ e7 Ar8 (j := (3 : Int32)) (inb_of S8 ⟨by decide, by decide⟩) (g := (mkF m 57 #[.val (.long q0), .second, .val (.int p1), .val (.ref b1), .val (.ref b2), .val (.ref b4), .unset, .unset] [(.int ((((q0.toUInt64 >>> ((24 : Int32) &&& 0x3f).toInt64.toUInt64).toInt64).toInt32).toInt8.toInt32)), (.int (3 : Int32)), (.ref b4)])) rfl rfl (hb hby at_57)
  refine own_st st8 ?_
  replace V_b1 := V_b1.other W8 ne_b1_b4
  replace V_b2 := V_b2.other W8 ne_b2_b4
  replace Z0 := Nat.le_trans Z0 (Nat.le_of_eq W8.size.symm)
  replace N0 := Fr.snoc X8 N0 g_b4
  have V_b4 : Arv Z h8 b4 k4 .byte (8 : Int32) [(.int (nar .byte ((q0.toInt32).toInt8.toInt32))), (.int (nar .byte ((((q0.toUInt64 >>> ((8 : Int32) &&& 0x3f).toInt64.toUInt64).toInt64).toInt32).toInt8.toInt32))), (.int (nar .byte ((((q0.toUInt64 >>> ((16 : Int32) &&& 0x3f).toInt64.toUInt64).toInt64).toInt32).toInt8.toInt32))), (.int (nar .byte ((((q0.toUInt64 >>> ((24 : Int32) &&& 0x3f).toInt64.toUInt64).toInt64).toInt32).toInt8.toInt32))), (.int (0 : Int32)), (.int (0 : Int32)), (.int (0 : Int32)), (.int (0 : Int32))] (.int (0 : Int32)) := Arv.set Ar8 qc8 S8 M8 H8 G8 (fits_nar_byte _) W8 3 rfl (Nat.le_of_ble_eq_true rfl)
  show own_Go p e below _ (T8.setTop (mkF m 58 #[.val (.long q0), .second, .val (.int p1), .val (.ref b1), .val (.ref b2), .val (.ref b4), .unset, .unset] []))
  refine own_st (fun _ k => XS.aload X8.here hx rfl (hb hby at_58) rfl rfl k) ?_
  show own_Go p e below _ (T8.setTop (mkF m 60 #[.val (.long q0), .second, .val (.int p1), .val (.ref b1), .val (.ref b2), .val (.ref b4), .unset, .unset] [(.ref b4)]))
  refine own_st (fun _ k => XS.iconst X8.here hx rfl (hb hby at_60) k) ?_
  show own_Go p e below _ (T8.setTop (mkF m 61 #[.val (.long q0), .second, .val (.int p1), .val (.ref b1), .val (.ref b2), .val (.ref b4), .unset, .unset] [(.int (4 : Int32)), (.ref b4)]))
  refine own_st (fun _ k => XS.lloadN X8.here hx rfl (hb hby at_61) rfl k) ?_
  show own_Go p e below _ (T8.setTop (mkF m 62 #[.val (.long q0), .second, .val (.int p1), .val (.ref b1), .val (.ref b2), .val (.ref b4), .unset, .unset] [(.long q0), (.int (4 : Int32)), (.ref b4)]))
  refine own_st (fun _ k => XS.bipush X8.here hx rfl (hb hby at_62) k) ?_
  show own_Go p e below _ (T8.setTop (mkF m 64 #[.val (.long q0), .second, .val (.int p1), .val (.ref b1), .val (.ref b2), .val (.ref b4), .unset, .unset] [(.int (32 : Int32)), (.long q0), (.int (4 : Int32)), (.ref b4)]))
  refine own_st (fun _ k => XS.lushr X8.here hx rfl (hb hby at_64) rfl k) ?_
  show own_Go p e below _ (T8.setTop (mkF m 65 #[.val (.long q0), .second, .val (.int p1), .val (.ref b1), .val (.ref b2), .val (.ref b4), .unset, .unset] [(.long ((q0.toUInt64 >>> ((32 : Int32) &&& 0x3f).toInt64.toUInt64).toInt64)), (.int (4 : Int32)), (.ref b4)]))
  refine own_st (fun _ k => XS.l2i X8.here hx rfl (hb hby at_65) rfl k) ?_
  show own_Go p e below _ (T8.setTop (mkF m 66 #[.val (.long q0), .second, .val (.int p1), .val (.ref b1), .val (.ref b2), .val (.ref b4), .unset, .unset] [(.int (((q0.toUInt64 >>> ((32 : Int32) &&& 0x3f).toInt64.toUInt64).toInt64).toInt32)), (.int (4 : Int32)), (.ref b4)]))
  refine own_st (fun _ k => XS.i2b X8.here hx rfl (hb hby at_66) rfl k) ?_
  show own_Go p e below _ (T8.setTop (mkF m 67 #[.val (.long q0), .second, .val (.int p1), .val (.ref b1), .val (.ref b2), .val (.ref b4), .unset, .unset] [(.int ((((q0.toUInt64 >>> ((32 : Int32) &&& 0x3f).toInt64.toUInt64).toInt64).toInt32).toInt8.toInt32)), (.int (4 : Int32)), (.ref b4)]))
  obtain ⟨cl9, Ar9, qc9, S9, M9, H9, G9⟩ := V_b4
  obtain ⟨T9, h9, X9, e9, W9, st9⟩ := stB X8 hx hZ e8 Ar9 (j := (4 : Int32)) (inb_of S9 ⟨by decide, by decide⟩) (g := (mkF m 67 #[.val (.long q0), .second, .val (.int p1), .val (.ref b1), .val (.ref b2), .val (.ref b4), .unset, .unset] [(.int ((((q0.toUInt64 >>> ((32 : Int32) &&& 0x3f).toInt64.toUInt64).toInt64).toInt32).toInt8.toInt32)), (.int (4 : Int32)), (.ref b4)])) rfl rfl (hb hby at_67)
  refine own_st st9 ?_
  replace V_b1 := V_b1.other W9 ne_b1_b4
  replace V_b2 := V_b2.other W9 ne_b2_b4
  replace Z0 := Nat.le_trans Z0 (Nat.le_of_eq W9.size.symm)
  replace N0 := Fr.snoc X9 N0 g_b4
  have V_b4 : Arv Z h9 b4 k4 .byte (8 : Int32) [(.int (nar .byte ((q0.toInt32).toInt8.toInt32))), (.int (nar .byte ((((q0.toUInt64 >>> ((8 : Int32) &&& 0x3f).toInt64.toUInt64).toInt64).toInt32).toInt8.toInt32))), (.int (nar .byte ((((q0.toUInt64 >>> ((16 : Int32) &&& 0x3f).toInt64.toUInt64).toInt64).toInt32).toInt8.toInt32))), (.int (nar .byte ((((q0.toUInt64 >>> ((24 : Int32) &&& 0x3f).toInt64.toUInt64).toInt64).toInt32).toInt8.toInt32))), (.int (nar .byte ((((q0.toUInt64 >>> ((32 : Int32) &&& 0x3f).toInt64.toUInt64).toInt64).toInt32).toInt8.toInt32))), (.int (0 : Int32)), (.int (0 : Int32)), (.int (0 : Int32))] (.int (0 : Int32)) := Arv.set Ar9 qc9 S9 M9 H9 G9 (fits_nar_byte _) W9 4 rfl (Nat.le_of_ble_eq_true rfl)
  show own_Go p e below _ (T9.setTop (mkF m 68 #[.val (.long q0), .second, .val (.int p1), .val (.ref b1), .val (.ref b2), .val (.ref b4), .unset, .unset] []))
  refine own_st (fun _ k => XS.aload X9.here hx rfl (hb hby at_68) rfl rfl k) ?_
  show own_Go p e below _ (T9.setTop (mkF m 70 #[.val (.long q0), .second, .val (.int p1), .val (.ref b1), .val (.ref b2), .val (.ref b4), .unset, .unset] [(.ref b4)]))
  refine own_st (fun _ k => XS.iconst X9.here hx rfl (hb hby at_70) k) ?_
  show own_Go p e below _ (T9.setTop (mkF m 71 #[.val (.long q0), .second, .val (.int p1), .val (.ref b1), .val (.ref b2), .val (.ref b4), .unset, .unset] [(.int (5 : Int32)), (.ref b4)]))
  refine own_st (fun _ k => XS.lloadN X9.here hx rfl (hb hby at_71) rfl k) ?_
  show own_Go p e below _ (T9.setTop (mkF m 72 #[.val (.long q0), .second, .val (.int p1), .val (.ref b1), .val (.ref b2), .val (.ref b4), .unset, .unset] [(.long q0), (.int (5 : Int32)), (.ref b4)]))
  refine own_st (fun _ k => XS.bipush X9.here hx rfl (hb hby at_72) k) ?_
  show own_Go p e below _ (T9.setTop (mkF m 74 #[.val (.long q0), .second, .val (.int p1), .val (.ref b1), .val (.ref b2), .val (.ref b4), .unset, .unset] [(.int (40 : Int32)), (.long q0), (.int (5 : Int32)), (.ref b4)]))
  refine own_st (fun _ k => XS.lushr X9.here hx rfl (hb hby at_74) rfl k) ?_
  show own_Go p e below _ (T9.setTop (mkF m 75 #[.val (.long q0), .second, .val (.int p1), .val (.ref b1), .val (.ref b2), .val (.ref b4), .unset, .unset] [(.long ((q0.toUInt64 >>> ((40 : Int32) &&& 0x3f).toInt64.toUInt64).toInt64)), (.int (5 : Int32)), (.ref b4)]))
  refine own_st (fun _ k => XS.l2i X9.here hx rfl (hb hby at_75) rfl k) ?_
  show own_Go p e below _ (T9.setTop (mkF m 76 #[.val (.long q0), .second, .val (.int p1), .val (.ref b1), .val (.ref b2), .val (.ref b4), .unset, .unset] [(.int (((q0.toUInt64 >>> ((40 : Int32) &&& 0x3f).toInt64.toUInt64).toInt64).toInt32)), (.int (5 : Int32)), (.ref b4)]))
  refine own_st (fun _ k => XS.i2b X9.here hx rfl (hb hby at_76) rfl k) ?_
  show own_Go p e below _ (T9.setTop (mkF m 77 #[.val (.long q0), .second, .val (.int p1), .val (.ref b1), .val (.ref b2), .val (.ref b4), .unset, .unset] [(.int ((((q0.toUInt64 >>> ((40 : Int32) &&& 0x3f).toInt64.toUInt64).toInt64).toInt32).toInt8.toInt32)), (.int (5 : Int32)), (.ref b4)]))
  obtain ⟨cl10, Ar10, qc10, S10, M10, H10, G10⟩ := V_b4
  obtain ⟨T10, h10, X10, e10, W10, st10⟩ := stB X9 hx hZ e9 Ar10 (j := (5 : Int32)) (inb_of S10 ⟨by decide, by decide⟩) (g := (mkF m 77 #[.val (.long q0), .second, .val (.int p1), .val (.ref b1), .val (.ref b2), .val (.ref b4), .unset, .unset] [(.int ((((q0.toUInt64 >>> ((40 : Int32) &&& 0x3f).toInt64.toUInt64).toInt64).toInt32).toInt8.toInt32)), (.int (5 : Int32)), (.ref b4)])) rfl rfl (hb hby at_77)
  refine own_st st10 ?_
  replace V_b1 := V_b1.other W10 ne_b1_b4
  replace V_b2 := V_b2.other W10 ne_b2_b4
  replace Z0 := Nat.le_trans Z0 (Nat.le_of_eq W10.size.symm)
  replace N0 := Fr.snoc X10 N0 g_b4
  have V_b4 : Arv Z h10 b4 k4 .byte (8 : Int32) [(.int (nar .byte ((q0.toInt32).toInt8.toInt32))), (.int (nar .byte ((((q0.toUInt64 >>> ((8 : Int32) &&& 0x3f).toInt64.toUInt64).toInt64).toInt32).toInt8.toInt32))), (.int (nar .byte ((((q0.toUInt64 >>> ((16 : Int32) &&& 0x3f).toInt64.toUInt64).toInt64).toInt32).toInt8.toInt32))), (.int (nar .byte ((((q0.toUInt64 >>> ((24 : Int32) &&& 0x3f).toInt64.toUInt64).toInt64).toInt32).toInt8.toInt32))), (.int (nar .byte ((((q0.toUInt64 >>> ((32 : Int32) &&& 0x3f).toInt64.toUInt64).toInt64).toInt32).toInt8.toInt32))), (.int (nar .byte ((((q0.toUInt64 >>> ((40 : Int32) &&& 0x3f).toInt64.toUInt64).toInt64).toInt32).toInt8.toInt32))), (.int (0 : Int32)), (.int (0 : Int32))] (.int (0 : Int32)) := Arv.set Ar10 qc10 S10 M10 H10 G10 (fits_nar_byte _) W10 5 rfl (Nat.le_of_ble_eq_true rfl)
  show own_Go p e below _ (T10.setTop (mkF m 78 #[.val (.long q0), .second, .val (.int p1), .val (.ref b1), .val (.ref b2), .val (.ref b4), .unset, .unset] []))
  refine own_st (fun _ k => XS.aload X10.here hx rfl (hb hby at_78) rfl rfl k) ?_
  show own_Go p e below _ (T10.setTop (mkF m 80 #[.val (.long q0), .second, .val (.int p1), .val (.ref b1), .val (.ref b2), .val (.ref b4), .unset, .unset] [(.ref b4)]))
  refine own_st (fun _ k => XS.bipush X10.here hx rfl (hb hby at_80) k) ?_
  show own_Go p e below _ (T10.setTop (mkF m 82 #[.val (.long q0), .second, .val (.int p1), .val (.ref b1), .val (.ref b2), .val (.ref b4), .unset, .unset] [(.int (6 : Int32)), (.ref b4)]))
  refine own_st (fun _ k => XS.lloadN X10.here hx rfl (hb hby at_82) rfl k) ?_
  show own_Go p e below _ (T10.setTop (mkF m 83 #[.val (.long q0), .second, .val (.int p1), .val (.ref b1), .val (.ref b2), .val (.ref b4), .unset, .unset] [(.long q0), (.int (6 : Int32)), (.ref b4)]))
  refine own_st (fun _ k => XS.bipush X10.here hx rfl (hb hby at_83) k) ?_
  show own_Go p e below _ (T10.setTop (mkF m 85 #[.val (.long q0), .second, .val (.int p1), .val (.ref b1), .val (.ref b2), .val (.ref b4), .unset, .unset] [(.int (48 : Int32)), (.long q0), (.int (6 : Int32)), (.ref b4)]))
  refine own_st (fun _ k => XS.lushr X10.here hx rfl (hb hby at_85) rfl k) ?_
  show own_Go p e below _ (T10.setTop (mkF m 86 #[.val (.long q0), .second, .val (.int p1), .val (.ref b1), .val (.ref b2), .val (.ref b4), .unset, .unset] [(.long ((q0.toUInt64 >>> ((48 : Int32) &&& 0x3f).toInt64.toUInt64).toInt64)), (.int (6 : Int32)), (.ref b4)]))
  refine own_st (fun _ k => XS.l2i X10.here hx rfl (hb hby at_86) rfl k) ?_
  show own_Go p e below _ (T10.setTop (mkF m 87 #[.val (.long q0), .second, .val (.int p1), .val (.ref b1), .val (.ref b2), .val (.ref b4), .unset, .unset] [(.int (((q0.toUInt64 >>> ((48 : Int32) &&& 0x3f).toInt64.toUInt64).toInt64).toInt32)), (.int (6 : Int32)), (.ref b4)]))
  refine own_st (fun _ k => XS.i2b X10.here hx rfl (hb hby at_87) rfl k) ?_
  show own_Go p e below _ (T10.setTop (mkF m 88 #[.val (.long q0), .second, .val (.int p1), .val (.ref b1), .val (.ref b2), .val (.ref b4), .unset, .unset] [(.int ((((q0.toUInt64 >>> ((48 : Int32) &&& 0x3f).toInt64.toUInt64).toInt64).toInt32).toInt8.toInt32)), (.int (6 : Int32)), (.ref b4)]))
  obtain ⟨cl11, Ar11, qc11, S11, M11, H11, G11⟩ := V_b4
  obtain ⟨T11, h11, X11, e11, W11, st11⟩ := stB X10 hx hZ e10 Ar11 (j := (6 : Int32)) (inb_of S11 ⟨by decide, by decide⟩) (g := (mkF m 88 #[.val (.long q0), .second, .val (.int p1), .val (.ref b1), .val (.ref b2), .val (.ref b4), .unset, .unset] [(.int ((((q0.toUInt64 >>> ((48 : Int32) &&& 0x3f).toInt64.toUInt64).toInt64).toInt32).toInt8.toInt32)), (.int (6 : Int32)), (.ref b4)])) rfl rfl (hb hby at_88)
  refine own_st st11 ?_
  replace V_b1 := V_b1.other W11 ne_b1_b4
  replace V_b2 := V_b2.other W11 ne_b2_b4
  replace Z0 := Nat.le_trans Z0 (Nat.le_of_eq W11.size.symm)
  replace N0 := Fr.snoc X11 N0 g_b4
  have V_b4 : Arv Z h11 b4 k4 .byte (8 : Int32) [(.int (nar .byte ((q0.toInt32).toInt8.toInt32))), (.int (nar .byte ((((q0.toUInt64 >>> ((8 : Int32) &&& 0x3f).toInt64.toUInt64).toInt64).toInt32).toInt8.toInt32))), (.int (nar .byte ((((q0.toUInt64 >>> ((16 : Int32) &&& 0x3f).toInt64.toUInt64).toInt64).toInt32).toInt8.toInt32))), (.int (nar .byte ((((q0.toUInt64 >>> ((24 : Int32) &&& 0x3f).toInt64.toUInt64).toInt64).toInt32).toInt8.toInt32))), (.int (nar .byte ((((q0.toUInt64 >>> ((32 : Int32) &&& 0x3f).toInt64.toUInt64).toInt64).toInt32).toInt8.toInt32))), (.int (nar .byte ((((q0.toUInt64 >>> ((40 : Int32) &&& 0x3f).toInt64.toUInt64).toInt64).toInt32).toInt8.toInt32))), (.int (nar .byte ((((q0.toUInt64 >>> ((48 : Int32) &&& 0x3f).toInt64.toUInt64).toInt64).toInt32).toInt8.toInt32))), (.int (0 : Int32))] (.int (0 : Int32)) := Arv.set Ar11 qc11 S11 M11 H11 G11 (fits_nar_byte _) W11 6 rfl (Nat.le_of_ble_eq_true rfl)
  show own_Go p e below _ (T11.setTop (mkF m 89 #[.val (.long q0), .second, .val (.int p1), .val (.ref b1), .val (.ref b2), .val (.ref b4), .unset, .unset] []))
  refine own_st (fun _ k => XS.aload X11.here hx rfl (hb hby at_89) rfl rfl k) ?_
  show own_Go p e below _ (T11.setTop (mkF m 91 #[.val (.long q0), .second, .val (.int p1), .val (.ref b1), .val (.ref b2), .val (.ref b4), .unset, .unset] [(.ref b4)]))
  refine own_st (fun _ k => XS.bipush X11.here hx rfl (hb hby at_91) k) ?_
  show own_Go p e below _ (T11.setTop (mkF m 93 #[.val (.long q0), .second, .val (.int p1), .val (.ref b1), .val (.ref b2), .val (.ref b4), .unset, .unset] [(.int (7 : Int32)), (.ref b4)]))
  refine own_st (fun _ k => XS.lloadN X11.here hx rfl (hb hby at_93) rfl k) ?_
  show own_Go p e below _ (T11.setTop (mkF m 94 #[.val (.long q0), .second, .val (.int p1), .val (.ref b1), .val (.ref b2), .val (.ref b4), .unset, .unset] [(.long q0), (.int (7 : Int32)), (.ref b4)]))
  refine own_st (fun _ k => XS.bipush X11.here hx rfl (hb hby at_94) k) ?_
  show own_Go p e below _ (T11.setTop (mkF m 96 #[.val (.long q0), .second, .val (.int p1), .val (.ref b1), .val (.ref b2), .val (.ref b4), .unset, .unset] [(.int (56 : Int32)), (.long q0), (.int (7 : Int32)), (.ref b4)]))
  refine own_st (fun _ k => XS.lushr X11.here hx rfl (hb hby at_96) rfl k) ?_
  show own_Go p e below _ (T11.setTop (mkF m 97 #[.val (.long q0), .second, .val (.int p1), .val (.ref b1), .val (.ref b2), .val (.ref b4), .unset, .unset] [(.long ((q0.toUInt64 >>> ((56 : Int32) &&& 0x3f).toInt64.toUInt64).toInt64)), (.int (7 : Int32)), (.ref b4)]))
  refine own_st (fun _ k => XS.l2i X11.here hx rfl (hb hby at_97) rfl k) ?_
  show own_Go p e below _ (T11.setTop (mkF m 98 #[.val (.long q0), .second, .val (.int p1), .val (.ref b1), .val (.ref b2), .val (.ref b4), .unset, .unset] [(.int (((q0.toUInt64 >>> ((56 : Int32) &&& 0x3f).toInt64.toUInt64).toInt64).toInt32)), (.int (7 : Int32)), (.ref b4)]))
  refine own_st (fun _ k => XS.i2b X11.here hx rfl (hb hby at_98) rfl k) ?_
  show own_Go p e below _ (T11.setTop (mkF m 99 #[.val (.long q0), .second, .val (.int p1), .val (.ref b1), .val (.ref b2), .val (.ref b4), .unset, .unset] [(.int ((((q0.toUInt64 >>> ((56 : Int32) &&& 0x3f).toInt64.toUInt64).toInt64).toInt32).toInt8.toInt32)), (.int (7 : Int32)), (.ref b4)]))
  obtain ⟨cl12, Ar12, qc12, S12, M12, H12, G12⟩ := V_b4
  obtain ⟨T12, h12, X12, e12, W12, st12⟩ := stB X11 hx hZ e11 Ar12 (j := (7 : Int32)) (inb_of S12 ⟨by decide, by decide⟩) (g := (mkF m 99 #[.val (.long q0), .second, .val (.int p1), .val (.ref b1), .val (.ref b2), .val (.ref b4), .unset, .unset] [(.int ((((q0.toUInt64 >>> ((56 : Int32) &&& 0x3f).toInt64.toUInt64).toInt64).toInt32).toInt8.toInt32)), (.int (7 : Int32)), (.ref b4)])) rfl rfl (hb hby at_99)
  refine own_st st12 ?_
  replace V_b1 := V_b1.other W12 ne_b1_b4
  replace V_b2 := V_b2.other W12 ne_b2_b4
  replace Z0 := Nat.le_trans Z0 (Nat.le_of_eq W12.size.symm)
  replace N0 := Fr.snoc X12 N0 g_b4
  have V_b4 : Arv Z h12 b4 k4 .byte (8 : Int32) [(.int (nar .byte ((q0.toInt32).toInt8.toInt32))), (.int (nar .byte ((((q0.toUInt64 >>> ((8 : Int32) &&& 0x3f).toInt64.toUInt64).toInt64).toInt32).toInt8.toInt32))), (.int (nar .byte ((((q0.toUInt64 >>> ((16 : Int32) &&& 0x3f).toInt64.toUInt64).toInt64).toInt32).toInt8.toInt32))), (.int (nar .byte ((((q0.toUInt64 >>> ((24 : Int32) &&& 0x3f).toInt64.toUInt64).toInt64).toInt32).toInt8.toInt32))), (.int (nar .byte ((((q0.toUInt64 >>> ((32 : Int32) &&& 0x3f).toInt64.toUInt64).toInt64).toInt32).toInt8.toInt32))), (.int (nar .byte ((((q0.toUInt64 >>> ((40 : Int32) &&& 0x3f).toInt64.toUInt64).toInt64).toInt32).toInt8.toInt32))), (.int (nar .byte ((((q0.toUInt64 >>> ((48 : Int32) &&& 0x3f).toInt64.toUInt64).toInt64).toInt32).toInt8.toInt32))), (.int (nar .byte ((((q0.toUInt64 >>> ((56 : Int32) &&& 0x3f).toInt64.toUInt64).toInt64).toInt32).toInt8.toInt32)))] (.int (0 : Int32)) := Arv.set Ar12 qc12 S12 M12 H12 G12 (fits_nar_byte _) W12 7 rfl (Nat.le_of_ble_eq_true rfl)
  show own_Go p e below _ (T12.setTop (mkF m 100 #[.val (.long q0), .second, .val (.int p1), .val (.ref b1), .val (.ref b2), .val (.ref b4), .unset, .unset] []))
  refine own_st (fun _ k => XS.iloadN X12.here hx rfl (hb hby at_100) rfl k) ?_
  show own_Go p e below _ (T12.setTop (mkF m 101 #[.val (.long q0), .second, .val (.int p1), .val (.ref b1), .val (.ref b2), .val (.ref b4), .unset, .unset] [(.int p1)]))
  refine own_st (fun _ k => XS.sipush X12.here hx rfl (hb hby at_101) k) ?_
  show own_Go p e below _ (T12.setTop (mkF m 104 #[.val (.long q0), .second, .val (.int p1), .val (.ref b1), .val (.ref b2), .val (.ref b4), .unset, .unset] [(.int (128 : Int32)), (.int p1)]))
  refine own_st (fun _ k => XS.iand X12.here hx rfl (hb hby at_104) rfl k) ?_
  show own_Go p e below _ (T12.setTop (mkF m 105 #[.val (.long q0), .second, .val (.int p1), .val (.ref b1), .val (.ref b2), .val (.ref b4), .unset, .unset] [(.int (p1 &&& (128 : Int32)))]))
  by_cases hc105 : (p1 &&& (128 : Int32)) = (0 : Int32)
  · refine own_st (fun _ k => XS.ifNo X12.here hx rfl (hb hby at_105) rfl ((own_i0 _ _).trans (own_nyes (hc105 : (p1 &&& (128 : Int32)) = (0 : Int32)))) k) ?_
    show own_Go p e below _ (T12.setTop (mkF m 108 #[.val (.long q0), .second, .val (.int p1), .val (.ref b1), .val (.ref b2), .val (.ref b4), .unset, .unset] []))
    refine own_st (fun _ k => XS.iconst X12.here hx rfl (hb hby at_108) k) ?_
    show own_Go p e below _ (T12.setTop (mkF m 109 #[.val (.long q0), .second, .val (.int p1), .val (.ref b1), .val (.ref b2), .val (.ref b4), .unset, .unset] [(.int (1 : Int32))]))
    refine own_st (fun _ k => XS.goto X12.here hx rfl (pc0 := 109) (pc' := 113) rfl (hb hby at_109) (by decide) (by decide) k) ?_
    show own_Go p e below _ (T12.setTop (mkF m 113 #[.val (.long q0), .second, .val (.int p1), .val (.ref b1), .val (.ref b2), .val (.ref b4), .unset, .unset] [(.int (1 : Int32))]))
    refine own_st (fun _ k => XS.istore X12.here hx rfl (hb hby at_113) rfl (l' := #[.val (.long q0), .second, .val (.int p1), .val (.ref b1), .val (.ref b2), .val (.ref b4), .val (.int (1 : Int32)), .unset]) rfl k) ?_
    show own_Go p e below _ (T12.setTop (mkF m 115 #[.val (.long q0), .second, .val (.int p1), .val (.ref b1), .val (.ref b2), .val (.ref b4), .val (.int (1 : Int32)), .unset] []))
    refine own_st (fun _ k => XS.lloadN X12.here hx rfl (hb hby at_115) rfl k) ?_
    show own_Go p e below _ (T12.setTop (mkF m 116 #[.val (.long q0), .second, .val (.int p1), .val (.ref b1), .val (.ref b2), .val (.ref b4), .val (.int (1 : Int32)), .unset] [(.long q0)]))
    refine own_st (fun _ k => XS.iconst X12.here hx rfl (hb hby at_116) k) ?_
    show own_Go p e below _ (T12.setTop (mkF m 117 #[.val (.long q0), .second, .val (.int p1), .val (.ref b1), .val (.ref b2), .val (.ref b4), .val (.int (1 : Int32)), .unset] [(.int (0 : Int32)), (.long q0)]))
    obtain ⟨_, T13, _, X13, ⟨rfl, rfl, e13⟩, st13⟩ := own_callS X12 hx hZ (y := (⟨"com/example/stratum_codecs/stratumcodecs/OrdinalListsCountPinLaw", "clear", "(JI)I"⟩ : MethodName)) (argsL := [(.long q0), (.int (0 : Int32))]) (rest := []) (W := 0) (g := (mkF m 117 #[.val (.long q0), .second, .val (.int p1), .val (.ref b1), .val (.ref b2), .val (.ref b4), .val (.int (1 : Int32)), .unset] [(.int (0 : Int32)), (.long q0)])) (rm1 l Z tA hw q0 (0 : Int32) h12) hown (hw _ (List.mem_of_getElem? (i := 1) rfl)) (hw _ (List.mem_of_getElem? (i := 2) rfl)) (hw _ (List.mem_of_getElem? (i := 3) rfl)) (hw _ (List.mem_of_getElem? (i := 4) rfl)) (by decide) e12 rfl (by rw [hml]; rfl) pd_0 rfl rfl (by show 2 * 0 + _ ≤ _; exact Nat.le_of_eq rfl) (hb hby at_117) (by decide) (by decide) (by decide) (by decide)
    replace X13 := own_flat X13
    refine own_st st13 ?_
    show own_Go p e below _ (T13.setTop (mkF m 120 #[.val (.long q0), .second, .val (.int p1), .val (.ref b1), .val (.ref b2), .val (.ref b4), .val (.int (1 : Int32)), .unset] [(.int (own_c_0 q0 (0 : Int32)))]))
    refine own_st (fun _ k => XS.lloadN X13.here hx rfl (hb hby at_120) rfl k) ?_
    show own_Go p e below _ (T13.setTop (mkF m 121 #[.val (.long q0), .second, .val (.int p1), .val (.ref b1), .val (.ref b2), .val (.ref b4), .val (.int (1 : Int32)), .unset] [(.long q0), (.int (own_c_0 q0 (0 : Int32)))]))
    refine own_st (fun _ k => XS.iconst X13.here hx rfl (hb hby at_121) k) ?_
    show own_Go p e below _ (T13.setTop (mkF m 122 #[.val (.long q0), .second, .val (.int p1), .val (.ref b1), .val (.ref b2), .val (.ref b4), .val (.int (1 : Int32)), .unset] [(.int (1 : Int32)), (.long q0), (.int (own_c_0 q0 (0 : Int32)))]))
    obtain ⟨_, T14, _, X14, ⟨rfl, rfl, e14⟩, st14⟩ := own_callS X13 hx hZ (y := (⟨"com/example/stratum_codecs/stratumcodecs/OrdinalListsCountPinLaw", "clear", "(JI)I"⟩ : MethodName)) (argsL := [(.long q0), (.int (1 : Int32))]) (rest := [(.int (own_c_0 q0 (0 : Int32)))]) (W := 1) (g := (mkF m 122 #[.val (.long q0), .second, .val (.int p1), .val (.ref b1), .val (.ref b2), .val (.ref b4), .val (.int (1 : Int32)), .unset] [(.int (1 : Int32)), (.long q0), (.int (own_c_0 q0 (0 : Int32)))])) (rm1 l Z tA hw q0 (1 : Int32) h12) hown (hw _ (List.mem_of_getElem? (i := 1) rfl)) (hw _ (List.mem_of_getElem? (i := 2) rfl)) (hw _ (List.mem_of_getElem? (i := 3) rfl)) (hw _ (List.mem_of_getElem? (i := 4) rfl)) (by decide) e13 rfl (by rw [hml]; rfl) pd_0 rfl rfl (by show 2 * 0 + _ ≤ _; exact Nat.le_of_eq rfl) (hb hby at_122) (by decide) (by decide) (by decide) (by decide)
    replace X14 := own_flat X14
    refine own_st st14 ?_
    show own_Go p e below _ (T14.setTop (mkF m 125 #[.val (.long q0), .second, .val (.int p1), .val (.ref b1), .val (.ref b2), .val (.ref b4), .val (.int (1 : Int32)), .unset] [(.int (own_c_0 q0 (1 : Int32))), (.int (own_c_0 q0 (0 : Int32)))]))
    refine own_st (fun _ k => XS.iadd X14.here hx rfl (hb hby at_125) rfl k) ?_
    show own_Go p e below _ (T14.setTop (mkF m 126 #[.val (.long q0), .second, .val (.int p1), .val (.ref b1), .val (.ref b2), .val (.ref b4), .val (.int (1 : Int32)), .unset] [(.int ((own_c_0 q0 (0 : Int32)) + (own_c_0 q0 (1 : Int32))))]))
    refine own_st (fun _ k => XS.lloadN X14.here hx rfl (hb hby at_126) rfl k) ?_
    show own_Go p e below _ (T14.setTop (mkF m 127 #[.val (.long q0), .second, .val (.int p1), .val (.ref b1), .val (.ref b2), .val (.ref b4), .val (.int (1 : Int32)), .unset] [(.long q0), (.int ((own_c_0 q0 (0 : Int32)) + (own_c_0 q0 (1 : Int32))))]))
    refine own_st (fun _ k => XS.iconst X14.here hx rfl (hb hby at_127) k) ?_
    show own_Go p e below _ (T14.setTop (mkF m 128 #[.val (.long q0), .second, .val (.int p1), .val (.ref b1), .val (.ref b2), .val (.ref b4), .val (.int (1 : Int32)), .unset] [(.int (2 : Int32)), (.long q0), (.int ((own_c_0 q0 (0 : Int32)) + (own_c_0 q0 (1 : Int32))))]))
    obtain ⟨_, T15, _, X15, ⟨rfl, rfl, e15⟩, st15⟩ := own_callS X14 hx hZ (y := (⟨"com/example/stratum_codecs/stratumcodecs/OrdinalListsCountPinLaw", "clear", "(JI)I"⟩ : MethodName)) (argsL := [(.long q0), (.int (2 : Int32))]) (rest := [(.int ((own_c_0 q0 (0 : Int32)) + (own_c_0 q0 (1 : Int32))))]) (W := 1) (g := (mkF m 128 #[.val (.long q0), .second, .val (.int p1), .val (.ref b1), .val (.ref b2), .val (.ref b4), .val (.int (1 : Int32)), .unset] [(.int (2 : Int32)), (.long q0), (.int ((own_c_0 q0 (0 : Int32)) + (own_c_0 q0 (1 : Int32))))])) (rm1 l Z tA hw q0 (2 : Int32) h12) hown (hw _ (List.mem_of_getElem? (i := 1) rfl)) (hw _ (List.mem_of_getElem? (i := 2) rfl)) (hw _ (List.mem_of_getElem? (i := 3) rfl)) (hw _ (List.mem_of_getElem? (i := 4) rfl)) (by decide) e14 rfl (by rw [hml]; rfl) pd_0 rfl rfl (by show 2 * 0 + _ ≤ _; exact Nat.le_of_eq rfl) (hb hby at_128) (by decide) (by decide) (by decide) (by decide)
    replace X15 := own_flat X15
    refine own_st st15 ?_
    show own_Go p e below _ (T15.setTop (mkF m 131 #[.val (.long q0), .second, .val (.int p1), .val (.ref b1), .val (.ref b2), .val (.ref b4), .val (.int (1 : Int32)), .unset] [(.int (own_c_0 q0 (2 : Int32))), (.int ((own_c_0 q0 (0 : Int32)) + (own_c_0 q0 (1 : Int32))))]))
    refine own_st (fun _ k => XS.iadd X15.here hx rfl (hb hby at_131) rfl k) ?_
    show own_Go p e below _ (T15.setTop (mkF m 132 #[.val (.long q0), .second, .val (.int p1), .val (.ref b1), .val (.ref b2), .val (.ref b4), .val (.int (1 : Int32)), .unset] [(.int (((own_c_0 q0 (0 : Int32)) + (own_c_0 q0 (1 : Int32))) + (own_c_0 q0 (2 : Int32))))]))
    refine own_st (fun _ k => XS.lloadN X15.here hx rfl (hb hby at_132) rfl k) ?_
    show own_Go p e below _ (T15.setTop (mkF m 133 #[.val (.long q0), .second, .val (.int p1), .val (.ref b1), .val (.ref b2), .val (.ref b4), .val (.int (1 : Int32)), .unset] [(.long q0), (.int (((own_c_0 q0 (0 : Int32)) + (own_c_0 q0 (1 : Int32))) + (own_c_0 q0 (2 : Int32))))]))
    refine own_st (fun _ k => XS.iconst X15.here hx rfl (hb hby at_133) k) ?_
    show own_Go p e below _ (T15.setTop (mkF m 134 #[.val (.long q0), .second, .val (.int p1), .val (.ref b1), .val (.ref b2), .val (.ref b4), .val (.int (1 : Int32)), .unset] [(.int (3 : Int32)), (.long q0), (.int (((own_c_0 q0 (0 : Int32)) + (own_c_0 q0 (1 : Int32))) + (own_c_0 q0 (2 : Int32))))]))
    obtain ⟨_, T16, _, X16, ⟨rfl, rfl, e16⟩, st16⟩ := own_callS X15 hx hZ (y := (⟨"com/example/stratum_codecs/stratumcodecs/OrdinalListsCountPinLaw", "clear", "(JI)I"⟩ : MethodName)) (argsL := [(.long q0), (.int (3 : Int32))]) (rest := [(.int (((own_c_0 q0 (0 : Int32)) + (own_c_0 q0 (1 : Int32))) + (own_c_0 q0 (2 : Int32))))]) (W := 1) (g := (mkF m 134 #[.val (.long q0), .second, .val (.int p1), .val (.ref b1), .val (.ref b2), .val (.ref b4), .val (.int (1 : Int32)), .unset] [(.int (3 : Int32)), (.long q0), (.int (((own_c_0 q0 (0 : Int32)) + (own_c_0 q0 (1 : Int32))) + (own_c_0 q0 (2 : Int32))))])) (rm1 l Z tA hw q0 (3 : Int32) h12) hown (hw _ (List.mem_of_getElem? (i := 1) rfl)) (hw _ (List.mem_of_getElem? (i := 2) rfl)) (hw _ (List.mem_of_getElem? (i := 3) rfl)) (hw _ (List.mem_of_getElem? (i := 4) rfl)) (by decide) e15 rfl (by rw [hml]; rfl) pd_0 rfl rfl (by show 2 * 0 + _ ≤ _; exact Nat.le_of_eq rfl) (hb hby at_134) (by decide) (by decide) (by decide) (by decide)
    replace X16 := own_flat X16
    refine own_st st16 ?_
    show own_Go p e below _ (T16.setTop (mkF m 137 #[.val (.long q0), .second, .val (.int p1), .val (.ref b1), .val (.ref b2), .val (.ref b4), .val (.int (1 : Int32)), .unset] [(.int (own_c_0 q0 (3 : Int32))), (.int (((own_c_0 q0 (0 : Int32)) + (own_c_0 q0 (1 : Int32))) + (own_c_0 q0 (2 : Int32))))]))
    refine own_st (fun _ k => XS.iadd X16.here hx rfl (hb hby at_137) rfl k) ?_
    show own_Go p e below _ (T16.setTop (mkF m 138 #[.val (.long q0), .second, .val (.int p1), .val (.ref b1), .val (.ref b2), .val (.ref b4), .val (.int (1 : Int32)), .unset] [(.int ((((own_c_0 q0 (0 : Int32)) + (own_c_0 q0 (1 : Int32))) + (own_c_0 q0 (2 : Int32))) + (own_c_0 q0 (3 : Int32))))]))
    refine own_st (fun _ k => XS.lloadN X16.here hx rfl (hb hby at_138) rfl k) ?_
    show own_Go p e below _ (T16.setTop (mkF m 139 #[.val (.long q0), .second, .val (.int p1), .val (.ref b1), .val (.ref b2), .val (.ref b4), .val (.int (1 : Int32)), .unset] [(.long q0), (.int ((((own_c_0 q0 (0 : Int32)) + (own_c_0 q0 (1 : Int32))) + (own_c_0 q0 (2 : Int32))) + (own_c_0 q0 (3 : Int32))))]))
    refine own_st (fun _ k => XS.iconst X16.here hx rfl (hb hby at_139) k) ?_
    show own_Go p e below _ (T16.setTop (mkF m 140 #[.val (.long q0), .second, .val (.int p1), .val (.ref b1), .val (.ref b2), .val (.ref b4), .val (.int (1 : Int32)), .unset] [(.int (4 : Int32)), (.long q0), (.int ((((own_c_0 q0 (0 : Int32)) + (own_c_0 q0 (1 : Int32))) + (own_c_0 q0 (2 : Int32))) + (own_c_0 q0 (3 : Int32))))]))
    obtain ⟨_, T17, _, X17, ⟨rfl, rfl, e17⟩, st17⟩ := own_callS X16 hx hZ (y := (⟨"com/example/stratum_codecs/stratumcodecs/OrdinalListsCountPinLaw", "clear", "(JI)I"⟩ : MethodName)) (argsL := [(.long q0), (.int (4 : Int32))]) (rest := [(.int ((((own_c_0 q0 (0 : Int32)) + (own_c_0 q0 (1 : Int32))) + (own_c_0 q0 (2 : Int32))) + (own_c_0 q0 (3 : Int32))))]) (W := 1) (g := (mkF m 140 #[.val (.long q0), .second, .val (.int p1), .val (.ref b1), .val (.ref b2), .val (.ref b4), .val (.int (1 : Int32)), .unset] [(.int (4 : Int32)), (.long q0), (.int ((((own_c_0 q0 (0 : Int32)) + (own_c_0 q0 (1 : Int32))) + (own_c_0 q0 (2 : Int32))) + (own_c_0 q0 (3 : Int32))))])) (rm1 l Z tA hw q0 (4 : Int32) h12) hown (hw _ (List.mem_of_getElem? (i := 1) rfl)) (hw _ (List.mem_of_getElem? (i := 2) rfl)) (hw _ (List.mem_of_getElem? (i := 3) rfl)) (hw _ (List.mem_of_getElem? (i := 4) rfl)) (by decide) e16 rfl (by rw [hml]; rfl) pd_0 rfl rfl (by show 2 * 0 + _ ≤ _; exact Nat.le_of_eq rfl) (hb hby at_140) (by decide) (by decide) (by decide) (by decide)
    replace X17 := own_flat X17
    refine own_st st17 ?_
    show own_Go p e below _ (T17.setTop (mkF m 143 #[.val (.long q0), .second, .val (.int p1), .val (.ref b1), .val (.ref b2), .val (.ref b4), .val (.int (1 : Int32)), .unset] [(.int (own_c_0 q0 (4 : Int32))), (.int ((((own_c_0 q0 (0 : Int32)) + (own_c_0 q0 (1 : Int32))) + (own_c_0 q0 (2 : Int32))) + (own_c_0 q0 (3 : Int32))))]))
    refine own_st (fun _ k => XS.iadd X17.here hx rfl (hb hby at_143) rfl k) ?_
    show own_Go p e below _ (T17.setTop (mkF m 144 #[.val (.long q0), .second, .val (.int p1), .val (.ref b1), .val (.ref b2), .val (.ref b4), .val (.int (1 : Int32)), .unset] [(.int (((((own_c_0 q0 (0 : Int32)) + (own_c_0 q0 (1 : Int32))) + (own_c_0 q0 (2 : Int32))) + (own_c_0 q0 (3 : Int32))) + (own_c_0 q0 (4 : Int32))))]))
    refine own_st (fun _ k => XS.lloadN X17.here hx rfl (hb hby at_144) rfl k) ?_
    show own_Go p e below _ (T17.setTop (mkF m 145 #[.val (.long q0), .second, .val (.int p1), .val (.ref b1), .val (.ref b2), .val (.ref b4), .val (.int (1 : Int32)), .unset] [(.long q0), (.int (((((own_c_0 q0 (0 : Int32)) + (own_c_0 q0 (1 : Int32))) + (own_c_0 q0 (2 : Int32))) + (own_c_0 q0 (3 : Int32))) + (own_c_0 q0 (4 : Int32))))]))
    refine own_st (fun _ k => XS.iconst X17.here hx rfl (hb hby at_145) k) ?_
    show own_Go p e below _ (T17.setTop (mkF m 146 #[.val (.long q0), .second, .val (.int p1), .val (.ref b1), .val (.ref b2), .val (.ref b4), .val (.int (1 : Int32)), .unset] [(.int (5 : Int32)), (.long q0), (.int (((((own_c_0 q0 (0 : Int32)) + (own_c_0 q0 (1 : Int32))) + (own_c_0 q0 (2 : Int32))) + (own_c_0 q0 (3 : Int32))) + (own_c_0 q0 (4 : Int32))))]))
    obtain ⟨_, T18, _, X18, ⟨rfl, rfl, e18⟩, st18⟩ := own_callS X17 hx hZ (y := (⟨"com/example/stratum_codecs/stratumcodecs/OrdinalListsCountPinLaw", "clear", "(JI)I"⟩ : MethodName)) (argsL := [(.long q0), (.int (5 : Int32))]) (rest := [(.int (((((own_c_0 q0 (0 : Int32)) + (own_c_0 q0 (1 : Int32))) + (own_c_0 q0 (2 : Int32))) + (own_c_0 q0 (3 : Int32))) + (own_c_0 q0 (4 : Int32))))]) (W := 1) (g := (mkF m 146 #[.val (.long q0), .second, .val (.int p1), .val (.ref b1), .val (.ref b2), .val (.ref b4), .val (.int (1 : Int32)), .unset] [(.int (5 : Int32)), (.long q0), (.int (((((own_c_0 q0 (0 : Int32)) + (own_c_0 q0 (1 : Int32))) + (own_c_0 q0 (2 : Int32))) + (own_c_0 q0 (3 : Int32))) + (own_c_0 q0 (4 : Int32))))])) (rm1 l Z tA hw q0 (5 : Int32) h12) hown (hw _ (List.mem_of_getElem? (i := 1) rfl)) (hw _ (List.mem_of_getElem? (i := 2) rfl)) (hw _ (List.mem_of_getElem? (i := 3) rfl)) (hw _ (List.mem_of_getElem? (i := 4) rfl)) (by decide) e17 rfl (by rw [hml]; rfl) pd_0 rfl rfl (by show 2 * 0 + _ ≤ _; exact Nat.le_of_eq rfl) (hb hby at_146) (by decide) (by decide) (by decide) (by decide)
    replace X18 := own_flat X18
    refine own_st st18 ?_
    show own_Go p e below _ (T18.setTop (mkF m 149 #[.val (.long q0), .second, .val (.int p1), .val (.ref b1), .val (.ref b2), .val (.ref b4), .val (.int (1 : Int32)), .unset] [(.int (own_c_0 q0 (5 : Int32))), (.int (((((own_c_0 q0 (0 : Int32)) + (own_c_0 q0 (1 : Int32))) + (own_c_0 q0 (2 : Int32))) + (own_c_0 q0 (3 : Int32))) + (own_c_0 q0 (4 : Int32))))]))
    refine own_st (fun _ k => XS.iadd X18.here hx rfl (hb hby at_149) rfl k) ?_
    show own_Go p e below _ (T18.setTop (mkF m 150 #[.val (.long q0), .second, .val (.int p1), .val (.ref b1), .val (.ref b2), .val (.ref b4), .val (.int (1 : Int32)), .unset] [(.int ((((((own_c_0 q0 (0 : Int32)) + (own_c_0 q0 (1 : Int32))) + (own_c_0 q0 (2 : Int32))) + (own_c_0 q0 (3 : Int32))) + (own_c_0 q0 (4 : Int32))) + (own_c_0 q0 (5 : Int32))))]))
    refine own_st (fun _ k => XS.lloadN X18.here hx rfl (hb hby at_150) rfl k) ?_
    show own_Go p e below _ (T18.setTop (mkF m 151 #[.val (.long q0), .second, .val (.int p1), .val (.ref b1), .val (.ref b2), .val (.ref b4), .val (.int (1 : Int32)), .unset] [(.long q0), (.int ((((((own_c_0 q0 (0 : Int32)) + (own_c_0 q0 (1 : Int32))) + (own_c_0 q0 (2 : Int32))) + (own_c_0 q0 (3 : Int32))) + (own_c_0 q0 (4 : Int32))) + (own_c_0 q0 (5 : Int32))))]))
    refine own_st (fun _ k => XS.bipush X18.here hx rfl (hb hby at_151) k) ?_
    show own_Go p e below _ (T18.setTop (mkF m 153 #[.val (.long q0), .second, .val (.int p1), .val (.ref b1), .val (.ref b2), .val (.ref b4), .val (.int (1 : Int32)), .unset] [(.int (6 : Int32)), (.long q0), (.int ((((((own_c_0 q0 (0 : Int32)) + (own_c_0 q0 (1 : Int32))) + (own_c_0 q0 (2 : Int32))) + (own_c_0 q0 (3 : Int32))) + (own_c_0 q0 (4 : Int32))) + (own_c_0 q0 (5 : Int32))))]))
    obtain ⟨_, T19, _, X19, ⟨rfl, rfl, e19⟩, st19⟩ := own_callS X18 hx hZ (y := (⟨"com/example/stratum_codecs/stratumcodecs/OrdinalListsCountPinLaw", "clear", "(JI)I"⟩ : MethodName)) (argsL := [(.long q0), (.int (6 : Int32))]) (rest := [(.int ((((((own_c_0 q0 (0 : Int32)) + (own_c_0 q0 (1 : Int32))) + (own_c_0 q0 (2 : Int32))) + (own_c_0 q0 (3 : Int32))) + (own_c_0 q0 (4 : Int32))) + (own_c_0 q0 (5 : Int32))))]) (W := 1) (g := (mkF m 153 #[.val (.long q0), .second, .val (.int p1), .val (.ref b1), .val (.ref b2), .val (.ref b4), .val (.int (1 : Int32)), .unset] [(.int (6 : Int32)), (.long q0), (.int ((((((own_c_0 q0 (0 : Int32)) + (own_c_0 q0 (1 : Int32))) + (own_c_0 q0 (2 : Int32))) + (own_c_0 q0 (3 : Int32))) + (own_c_0 q0 (4 : Int32))) + (own_c_0 q0 (5 : Int32))))])) (rm1 l Z tA hw q0 (6 : Int32) h12) hown (hw _ (List.mem_of_getElem? (i := 1) rfl)) (hw _ (List.mem_of_getElem? (i := 2) rfl)) (hw _ (List.mem_of_getElem? (i := 3) rfl)) (hw _ (List.mem_of_getElem? (i := 4) rfl)) (by decide) e18 rfl (by rw [hml]; rfl) pd_0 rfl rfl (by show 2 * 0 + _ ≤ _; exact Nat.le_of_eq rfl) (hb hby at_153) (by decide) (by decide) (by decide) (by decide)
    replace X19 := own_flat X19
    refine own_st st19 ?_
    show own_Go p e below _ (T19.setTop (mkF m 156 #[.val (.long q0), .second, .val (.int p1), .val (.ref b1), .val (.ref b2), .val (.ref b4), .val (.int (1 : Int32)), .unset] [(.int (own_c_0 q0 (6 : Int32))), (.int ((((((own_c_0 q0 (0 : Int32)) + (own_c_0 q0 (1 : Int32))) + (own_c_0 q0 (2 : Int32))) + (own_c_0 q0 (3 : Int32))) + (own_c_0 q0 (4 : Int32))) + (own_c_0 q0 (5 : Int32))))]))
    refine own_st (fun _ k => XS.iadd X19.here hx rfl (hb hby at_156) rfl k) ?_
    show own_Go p e below _ (T19.setTop (mkF m 157 #[.val (.long q0), .second, .val (.int p1), .val (.ref b1), .val (.ref b2), .val (.ref b4), .val (.int (1 : Int32)), .unset] [(.int (((((((own_c_0 q0 (0 : Int32)) + (own_c_0 q0 (1 : Int32))) + (own_c_0 q0 (2 : Int32))) + (own_c_0 q0 (3 : Int32))) + (own_c_0 q0 (4 : Int32))) + (own_c_0 q0 (5 : Int32))) + (own_c_0 q0 (6 : Int32))))]))
    refine own_st (fun _ k => XS.lloadN X19.here hx rfl (hb hby at_157) rfl k) ?_
    show own_Go p e below _ (T19.setTop (mkF m 158 #[.val (.long q0), .second, .val (.int p1), .val (.ref b1), .val (.ref b2), .val (.ref b4), .val (.int (1 : Int32)), .unset] [(.long q0), (.int (((((((own_c_0 q0 (0 : Int32)) + (own_c_0 q0 (1 : Int32))) + (own_c_0 q0 (2 : Int32))) + (own_c_0 q0 (3 : Int32))) + (own_c_0 q0 (4 : Int32))) + (own_c_0 q0 (5 : Int32))) + (own_c_0 q0 (6 : Int32))))]))
    refine own_st (fun _ k => XS.bipush X19.here hx rfl (hb hby at_158) k) ?_
    show own_Go p e below _ (T19.setTop (mkF m 160 #[.val (.long q0), .second, .val (.int p1), .val (.ref b1), .val (.ref b2), .val (.ref b4), .val (.int (1 : Int32)), .unset] [(.int (7 : Int32)), (.long q0), (.int (((((((own_c_0 q0 (0 : Int32)) + (own_c_0 q0 (1 : Int32))) + (own_c_0 q0 (2 : Int32))) + (own_c_0 q0 (3 : Int32))) + (own_c_0 q0 (4 : Int32))) + (own_c_0 q0 (5 : Int32))) + (own_c_0 q0 (6 : Int32))))]))
    obtain ⟨_, T20, _, X20, ⟨rfl, rfl, e20⟩, st20⟩ := own_callS X19 hx hZ (y := (⟨"com/example/stratum_codecs/stratumcodecs/OrdinalListsCountPinLaw", "clear", "(JI)I"⟩ : MethodName)) (argsL := [(.long q0), (.int (7 : Int32))]) (rest := [(.int (((((((own_c_0 q0 (0 : Int32)) + (own_c_0 q0 (1 : Int32))) + (own_c_0 q0 (2 : Int32))) + (own_c_0 q0 (3 : Int32))) + (own_c_0 q0 (4 : Int32))) + (own_c_0 q0 (5 : Int32))) + (own_c_0 q0 (6 : Int32))))]) (W := 1) (g := (mkF m 160 #[.val (.long q0), .second, .val (.int p1), .val (.ref b1), .val (.ref b2), .val (.ref b4), .val (.int (1 : Int32)), .unset] [(.int (7 : Int32)), (.long q0), (.int (((((((own_c_0 q0 (0 : Int32)) + (own_c_0 q0 (1 : Int32))) + (own_c_0 q0 (2 : Int32))) + (own_c_0 q0 (3 : Int32))) + (own_c_0 q0 (4 : Int32))) + (own_c_0 q0 (5 : Int32))) + (own_c_0 q0 (6 : Int32))))])) (rm1 l Z tA hw q0 (7 : Int32) h12) hown (hw _ (List.mem_of_getElem? (i := 1) rfl)) (hw _ (List.mem_of_getElem? (i := 2) rfl)) (hw _ (List.mem_of_getElem? (i := 3) rfl)) (hw _ (List.mem_of_getElem? (i := 4) rfl)) (by decide) e19 rfl (by rw [hml]; rfl) pd_0 rfl rfl (by show 2 * 0 + _ ≤ _; exact Nat.le_of_eq rfl) (hb hby at_160) (by decide) (by decide) (by decide) (by decide)
    replace X20 := own_flat X20
    refine own_st st20 ?_
    show own_Go p e below _ (T20.setTop (mkF m 163 #[.val (.long q0), .second, .val (.int p1), .val (.ref b1), .val (.ref b2), .val (.ref b4), .val (.int (1 : Int32)), .unset] [(.int (own_c_0 q0 (7 : Int32))), (.int (((((((own_c_0 q0 (0 : Int32)) + (own_c_0 q0 (1 : Int32))) + (own_c_0 q0 (2 : Int32))) + (own_c_0 q0 (3 : Int32))) + (own_c_0 q0 (4 : Int32))) + (own_c_0 q0 (5 : Int32))) + (own_c_0 q0 (6 : Int32))))]))
    refine own_st (fun _ k => XS.iadd X20.here hx rfl (hb hby at_163) rfl k) ?_
    show own_Go p e below _ (T20.setTop (mkF m 164 #[.val (.long q0), .second, .val (.int p1), .val (.ref b1), .val (.ref b2), .val (.ref b4), .val (.int (1 : Int32)), .unset] [(.int ((((((((own_c_0 q0 (0 : Int32)) + (own_c_0 q0 (1 : Int32))) + (own_c_0 q0 (2 : Int32))) + (own_c_0 q0 (3 : Int32))) + (own_c_0 q0 (4 : Int32))) + (own_c_0 q0 (5 : Int32))) + (own_c_0 q0 (6 : Int32))) + (own_c_0 q0 (7 : Int32))))]))
    refine own_st (fun _ k => XS.istore X20.here hx rfl (hb hby at_164) rfl (l' := #[.val (.long q0), .second, .val (.int p1), .val (.ref b1), .val (.ref b2), .val (.ref b4), .val (.int (1 : Int32)), .val (.int ((((((((own_c_0 q0 (0 : Int32)) + (own_c_0 q0 (1 : Int32))) + (own_c_0 q0 (2 : Int32))) + (own_c_0 q0 (3 : Int32))) + (own_c_0 q0 (4 : Int32))) + (own_c_0 q0 (5 : Int32))) + (own_c_0 q0 (6 : Int32))) + (own_c_0 q0 (7 : Int32))))]) rfl k) ?_
    show own_Go p e below _ (T20.setTop (mkF m 166 #[.val (.long q0), .second, .val (.int p1), .val (.ref b1), .val (.ref b2), .val (.ref b4), .val (.int (1 : Int32)), .val (.int ((((((((own_c_0 q0 (0 : Int32)) + (own_c_0 q0 (1 : Int32))) + (own_c_0 q0 (2 : Int32))) + (own_c_0 q0 (3 : Int32))) + (own_c_0 q0 (4 : Int32))) + (own_c_0 q0 (5 : Int32))) + (own_c_0 q0 (6 : Int32))) + (own_c_0 q0 (7 : Int32))))] []))
    refine own_st (fun _ k => XS.aloadN X20.here hx rfl (hb hby at_166) rfl rfl k) ?_
    show own_Go p e below _ (T20.setTop (mkF m 167 #[.val (.long q0), .second, .val (.int p1), .val (.ref b1), .val (.ref b2), .val (.ref b4), .val (.int (1 : Int32)), .val (.int ((((((((own_c_0 q0 (0 : Int32)) + (own_c_0 q0 (1 : Int32))) + (own_c_0 q0 (2 : Int32))) + (own_c_0 q0 (3 : Int32))) + (own_c_0 q0 (4 : Int32))) + (own_c_0 q0 (5 : Int32))) + (own_c_0 q0 (6 : Int32))) + (own_c_0 q0 (7 : Int32))))] [(.ref b1)]))
    obtain ⟨_, T21, _, X21, ⟨rfl, rfl, e21⟩, st21⟩ := own_callS X20 hx hZ (y := (⟨"com/example/stratum_codecs/stratumcodecs/OrdinalLists", "count", "([B)I"⟩ : MethodName)) (argsL := [(.ref b1)]) (rest := []) (W := 0) (g := (mkF m 167 #[.val (.long q0), .second, .val (.int p1), .val (.ref b1), .val (.ref b2), .val (.ref b4), .val (.int (1 : Int32)), .val (.int ((((((((own_c_0 q0 (0 : Int32)) + (own_c_0 q0 (1 : Int32))) + (own_c_0 q0 (2 : Int32))) + (own_c_0 q0 (3 : Int32))) + (own_c_0 q0 (4 : Int32))) + (own_c_0 q0 (5 : Int32))) + (own_c_0 q0 (6 : Int32))) + (own_c_0 q0 (7 : Int32))))] [(.ref b1)])) (rm2 l Z tA hw b1 k1 (0 : Int32) [] h12 rfl V_b1) hown (hw _ (List.mem_of_getElem? (i := 5) rfl)) (hw _ (List.mem_of_getElem? (i := 6) rfl)) (hw _ (List.mem_of_getElem? (i := 7) rfl)) (hw _ (List.mem_of_getElem? (i := 8) rfl)) (by decide) e20 rfl (by rw [hml]; rfl) pd_1 rfl rfl (by show 2 * 0 + _ ≤ _; exact Nat.le_of_eq rfl) (hb hby at_167) (by decide) (by decide) (by decide) (by decide)
    replace X21 := own_flat X21
    refine own_st st21 ?_
    show own_Go p e below _ (T21.setTop (mkF m 170 #[.val (.long q0), .second, .val (.int p1), .val (.ref b1), .val (.ref b2), .val (.ref b4), .val (.int (1 : Int32)), .val (.int ((((((((own_c_0 q0 (0 : Int32)) + (own_c_0 q0 (1 : Int32))) + (own_c_0 q0 (2 : Int32))) + (own_c_0 q0 (3 : Int32))) + (own_c_0 q0 (4 : Int32))) + (own_c_0 q0 (5 : Int32))) + (own_c_0 q0 (6 : Int32))) + (own_c_0 q0 (7 : Int32))))] [(.int (own_cnt (0 : Int32) []))]))
    refine own_st (fun _ k => XS.ifNo X21.here hx rfl (hb hby at_170) rfl ((own_i0 _ _).trans (own_nyes (rfl : (own_cnt (0 : Int32) []) = (0 : Int32)))) k) ?_
    show own_Go p e below _ (T21.setTop (mkF m 173 #[.val (.long q0), .second, .val (.int p1), .val (.ref b1), .val (.ref b2), .val (.ref b4), .val (.int (1 : Int32)), .val (.int ((((((((own_c_0 q0 (0 : Int32)) + (own_c_0 q0 (1 : Int32))) + (own_c_0 q0 (2 : Int32))) + (own_c_0 q0 (3 : Int32))) + (own_c_0 q0 (4 : Int32))) + (own_c_0 q0 (5 : Int32))) + (own_c_0 q0 (6 : Int32))) + (own_c_0 q0 (7 : Int32))))] []))
    refine own_st (fun _ k => XS.aload X21.here hx rfl (hb hby at_173) rfl rfl k) ?_
    show own_Go p e below _ (T21.setTop (mkF m 175 #[.val (.long q0), .second, .val (.int p1), .val (.ref b1), .val (.ref b2), .val (.ref b4), .val (.int (1 : Int32)), .val (.int ((((((((own_c_0 q0 (0 : Int32)) + (own_c_0 q0 (1 : Int32))) + (own_c_0 q0 (2 : Int32))) + (own_c_0 q0 (3 : Int32))) + (own_c_0 q0 (4 : Int32))) + (own_c_0 q0 (5 : Int32))) + (own_c_0 q0 (6 : Int32))) + (own_c_0 q0 (7 : Int32))))] [(.ref b2)]))
    obtain ⟨_, T22, _, X22, ⟨rfl, rfl, e22⟩, st22⟩ := own_callS X21 hx hZ (y := (⟨"com/example/stratum_codecs/stratumcodecs/OrdinalLists", "count", "([B)I"⟩ : MethodName)) (argsL := [(.ref b2)]) (rest := []) (W := 0) (g := (mkF m 175 #[.val (.long q0), .second, .val (.int p1), .val (.ref b1), .val (.ref b2), .val (.ref b4), .val (.int (1 : Int32)), .val (.int ((((((((own_c_0 q0 (0 : Int32)) + (own_c_0 q0 (1 : Int32))) + (own_c_0 q0 (2 : Int32))) + (own_c_0 q0 (3 : Int32))) + (own_c_0 q0 (4 : Int32))) + (own_c_0 q0 (5 : Int32))) + (own_c_0 q0 (6 : Int32))) + (own_c_0 q0 (7 : Int32))))] [(.ref b2)])) (rm2 l Z tA hw b2 k2 (1 : Int32) [(nar .byte (p1.toInt8.toInt32))] h12 rfl V_b2) hown (hw _ (List.mem_of_getElem? (i := 5) rfl)) (hw _ (List.mem_of_getElem? (i := 6) rfl)) (hw _ (List.mem_of_getElem? (i := 7) rfl)) (hw _ (List.mem_of_getElem? (i := 8) rfl)) (by decide) e21 rfl (by rw [hml]; rfl) pd_1 rfl rfl (by show 2 * 0 + _ ≤ _; exact Nat.le_of_eq rfl) (hb hby at_175) (by decide) (by decide) (by decide) (by decide)
    replace X22 := own_flat X22
    refine own_st st22 ?_
    show own_Go p e below _ (T22.setTop (mkF m 178 #[.val (.long q0), .second, .val (.int p1), .val (.ref b1), .val (.ref b2), .val (.ref b4), .val (.int (1 : Int32)), .val (.int ((((((((own_c_0 q0 (0 : Int32)) + (own_c_0 q0 (1 : Int32))) + (own_c_0 q0 (2 : Int32))) + (own_c_0 q0 (3 : Int32))) + (own_c_0 q0 (4 : Int32))) + (own_c_0 q0 (5 : Int32))) + (own_c_0 q0 (6 : Int32))) + (own_c_0 q0 (7 : Int32))))] [(.int (own_cnt (0 : Int32) [(nar .byte (p1.toInt8.toInt32))]))]))
    refine own_st (fun _ k => XS.iload X22.here hx rfl (hb hby at_178) rfl k) ?_
    show own_Go p e below _ (T22.setTop (mkF m 180 #[.val (.long q0), .second, .val (.int p1), .val (.ref b1), .val (.ref b2), .val (.ref b4), .val (.int (1 : Int32)), .val (.int ((((((((own_c_0 q0 (0 : Int32)) + (own_c_0 q0 (1 : Int32))) + (own_c_0 q0 (2 : Int32))) + (own_c_0 q0 (3 : Int32))) + (own_c_0 q0 (4 : Int32))) + (own_c_0 q0 (5 : Int32))) + (own_c_0 q0 (6 : Int32))) + (own_c_0 q0 (7 : Int32))))] [(.int (1 : Int32)), (.int (own_cnt (0 : Int32) [(nar .byte (p1.toInt8.toInt32))]))]))
    refine own_st (fun _ k => XS.icmpNo X22.here hx rfl (hb hby at_180) rfl ((own_i2 _ _ _).trans (own_nyes ((own_one0 p1 hc105) : (own_cnt (0 : Int32) [(nar .byte (p1.toInt8.toInt32))]) = (1 : Int32)))) k) ?_
    show own_Go p e below _ (T22.setTop (mkF m 183 #[.val (.long q0), .second, .val (.int p1), .val (.ref b1), .val (.ref b2), .val (.ref b4), .val (.int (1 : Int32)), .val (.int ((((((((own_c_0 q0 (0 : Int32)) + (own_c_0 q0 (1 : Int32))) + (own_c_0 q0 (2 : Int32))) + (own_c_0 q0 (3 : Int32))) + (own_c_0 q0 (4 : Int32))) + (own_c_0 q0 (5 : Int32))) + (own_c_0 q0 (6 : Int32))) + (own_c_0 q0 (7 : Int32))))] []))
    refine own_st (fun _ k => XS.aload X22.here hx rfl (hb hby at_183) rfl rfl k) ?_
    show own_Go p e below _ (T22.setTop (mkF m 185 #[.val (.long q0), .second, .val (.int p1), .val (.ref b1), .val (.ref b2), .val (.ref b4), .val (.int (1 : Int32)), .val (.int ((((((((own_c_0 q0 (0 : Int32)) + (own_c_0 q0 (1 : Int32))) + (own_c_0 q0 (2 : Int32))) + (own_c_0 q0 (3 : Int32))) + (own_c_0 q0 (4 : Int32))) + (own_c_0 q0 (5 : Int32))) + (own_c_0 q0 (6 : Int32))) + (own_c_0 q0 (7 : Int32))))] [(.ref b4)]))
    obtain ⟨_, T23, _, X23, ⟨rfl, rfl, e23⟩, st23⟩ := own_callS X22 hx hZ (y := (⟨"com/example/stratum_codecs/stratumcodecs/OrdinalLists", "count", "([B)I"⟩ : MethodName)) (argsL := [(.ref b4)]) (rest := []) (W := 0) (g := (mkF m 185 #[.val (.long q0), .second, .val (.int p1), .val (.ref b1), .val (.ref b2), .val (.ref b4), .val (.int (1 : Int32)), .val (.int ((((((((own_c_0 q0 (0 : Int32)) + (own_c_0 q0 (1 : Int32))) + (own_c_0 q0 (2 : Int32))) + (own_c_0 q0 (3 : Int32))) + (own_c_0 q0 (4 : Int32))) + (own_c_0 q0 (5 : Int32))) + (own_c_0 q0 (6 : Int32))) + (own_c_0 q0 (7 : Int32))))] [(.ref b4)])) (rm2 l Z tA hw b4 k4 (8 : Int32) [(nar .byte ((q0.toInt32).toInt8.toInt32)), (nar .byte ((((q0.toUInt64 >>> ((8 : Int32) &&& 0x3f).toInt64.toUInt64).toInt64).toInt32).toInt8.toInt32)), (nar .byte ((((q0.toUInt64 >>> ((16 : Int32) &&& 0x3f).toInt64.toUInt64).toInt64).toInt32).toInt8.toInt32)), (nar .byte ((((q0.toUInt64 >>> ((24 : Int32) &&& 0x3f).toInt64.toUInt64).toInt64).toInt32).toInt8.toInt32)), (nar .byte ((((q0.toUInt64 >>> ((32 : Int32) &&& 0x3f).toInt64.toUInt64).toInt64).toInt32).toInt8.toInt32)), (nar .byte ((((q0.toUInt64 >>> ((40 : Int32) &&& 0x3f).toInt64.toUInt64).toInt64).toInt32).toInt8.toInt32)), (nar .byte ((((q0.toUInt64 >>> ((48 : Int32) &&& 0x3f).toInt64.toUInt64).toInt64).toInt32).toInt8.toInt32)), (nar .byte ((((q0.toUInt64 >>> ((56 : Int32) &&& 0x3f).toInt64.toUInt64).toInt64).toInt32).toInt8.toInt32))] h12 rfl V_b4) hown (hw _ (List.mem_of_getElem? (i := 5) rfl)) (hw _ (List.mem_of_getElem? (i := 6) rfl)) (hw _ (List.mem_of_getElem? (i := 7) rfl)) (hw _ (List.mem_of_getElem? (i := 8) rfl)) (by decide) e22 rfl (by rw [hml]; rfl) pd_1 rfl rfl (by show 2 * 0 + _ ≤ _; exact Nat.le_of_eq rfl) (hb hby at_185) (by decide) (by decide) (by decide) (by decide)
    replace X23 := own_flat X23
    refine own_st st23 ?_
    show own_Go p e below _ (T23.setTop (mkF m 188 #[.val (.long q0), .second, .val (.int p1), .val (.ref b1), .val (.ref b2), .val (.ref b4), .val (.int (1 : Int32)), .val (.int ((((((((own_c_0 q0 (0 : Int32)) + (own_c_0 q0 (1 : Int32))) + (own_c_0 q0 (2 : Int32))) + (own_c_0 q0 (3 : Int32))) + (own_c_0 q0 (4 : Int32))) + (own_c_0 q0 (5 : Int32))) + (own_c_0 q0 (6 : Int32))) + (own_c_0 q0 (7 : Int32))))] [(.int (own_cnt (0 : Int32) [(nar .byte ((q0.toInt32).toInt8.toInt32)), (nar .byte ((((q0.toUInt64 >>> ((8 : Int32) &&& 0x3f).toInt64.toUInt64).toInt64).toInt32).toInt8.toInt32)), (nar .byte ((((q0.toUInt64 >>> ((16 : Int32) &&& 0x3f).toInt64.toUInt64).toInt64).toInt32).toInt8.toInt32)), (nar .byte ((((q0.toUInt64 >>> ((24 : Int32) &&& 0x3f).toInt64.toUInt64).toInt64).toInt32).toInt8.toInt32)), (nar .byte ((((q0.toUInt64 >>> ((32 : Int32) &&& 0x3f).toInt64.toUInt64).toInt64).toInt32).toInt8.toInt32)), (nar .byte ((((q0.toUInt64 >>> ((40 : Int32) &&& 0x3f).toInt64.toUInt64).toInt64).toInt32).toInt8.toInt32)), (nar .byte ((((q0.toUInt64 >>> ((48 : Int32) &&& 0x3f).toInt64.toUInt64).toInt64).toInt32).toInt8.toInt32)), (nar .byte ((((q0.toUInt64 >>> ((56 : Int32) &&& 0x3f).toInt64.toUInt64).toInt64).toInt32).toInt8.toInt32))]))]))
    refine own_st (fun _ k => XS.iload X23.here hx rfl (hb hby at_188) rfl k) ?_
    show own_Go p e below _ (T23.setTop (mkF m 190 #[.val (.long q0), .second, .val (.int p1), .val (.ref b1), .val (.ref b2), .val (.ref b4), .val (.int (1 : Int32)), .val (.int ((((((((own_c_0 q0 (0 : Int32)) + (own_c_0 q0 (1 : Int32))) + (own_c_0 q0 (2 : Int32))) + (own_c_0 q0 (3 : Int32))) + (own_c_0 q0 (4 : Int32))) + (own_c_0 q0 (5 : Int32))) + (own_c_0 q0 (6 : Int32))) + (own_c_0 q0 (7 : Int32))))] [(.int ((((((((own_c_0 q0 (0 : Int32)) + (own_c_0 q0 (1 : Int32))) + (own_c_0 q0 (2 : Int32))) + (own_c_0 q0 (3 : Int32))) + (own_c_0 q0 (4 : Int32))) + (own_c_0 q0 (5 : Int32))) + (own_c_0 q0 (6 : Int32))) + (own_c_0 q0 (7 : Int32)))), (.int (own_cnt (0 : Int32) [(nar .byte ((q0.toInt32).toInt8.toInt32)), (nar .byte ((((q0.toUInt64 >>> ((8 : Int32) &&& 0x3f).toInt64.toUInt64).toInt64).toInt32).toInt8.toInt32)), (nar .byte ((((q0.toUInt64 >>> ((16 : Int32) &&& 0x3f).toInt64.toUInt64).toInt64).toInt32).toInt8.toInt32)), (nar .byte ((((q0.toUInt64 >>> ((24 : Int32) &&& 0x3f).toInt64.toUInt64).toInt64).toInt32).toInt8.toInt32)), (nar .byte ((((q0.toUInt64 >>> ((32 : Int32) &&& 0x3f).toInt64.toUInt64).toInt64).toInt32).toInt8.toInt32)), (nar .byte ((((q0.toUInt64 >>> ((40 : Int32) &&& 0x3f).toInt64.toUInt64).toInt64).toInt32).toInt8.toInt32)), (nar .byte ((((q0.toUInt64 >>> ((48 : Int32) &&& 0x3f).toInt64.toUInt64).toInt64).toInt32).toInt8.toInt32)), (nar .byte ((((q0.toUInt64 >>> ((56 : Int32) &&& 0x3f).toInt64.toUInt64).toInt64).toInt32).toInt8.toInt32))]))]))
    refine own_st (fun _ k => XS.icmpNo X23.here hx rfl (hb hby at_190) rfl ((own_i2 _ _ _).trans (own_nyes ((own_eight q0) : (own_cnt (0 : Int32) [(nar .byte ((q0.toInt32).toInt8.toInt32)), (nar .byte ((((q0.toUInt64 >>> ((8 : Int32) &&& 0x3f).toInt64.toUInt64).toInt64).toInt32).toInt8.toInt32)), (nar .byte ((((q0.toUInt64 >>> ((16 : Int32) &&& 0x3f).toInt64.toUInt64).toInt64).toInt32).toInt8.toInt32)), (nar .byte ((((q0.toUInt64 >>> ((24 : Int32) &&& 0x3f).toInt64.toUInt64).toInt64).toInt32).toInt8.toInt32)), (nar .byte ((((q0.toUInt64 >>> ((32 : Int32) &&& 0x3f).toInt64.toUInt64).toInt64).toInt32).toInt8.toInt32)), (nar .byte ((((q0.toUInt64 >>> ((40 : Int32) &&& 0x3f).toInt64.toUInt64).toInt64).toInt32).toInt8.toInt32)), (nar .byte ((((q0.toUInt64 >>> ((48 : Int32) &&& 0x3f).toInt64.toUInt64).toInt64).toInt32).toInt8.toInt32)), (nar .byte ((((q0.toUInt64 >>> ((56 : Int32) &&& 0x3f).toInt64.toUInt64).toInt64).toInt32).toInt8.toInt32))]) = ((((((((own_c_0 q0 (0 : Int32)) + (own_c_0 q0 (1 : Int32))) + (own_c_0 q0 (2 : Int32))) + (own_c_0 q0 (3 : Int32))) + (own_c_0 q0 (4 : Int32))) + (own_c_0 q0 (5 : Int32))) + (own_c_0 q0 (6 : Int32))) + (own_c_0 q0 (7 : Int32)))))) k) ?_
    show own_Go p e below _ (T23.setTop (mkF m 193 #[.val (.long q0), .second, .val (.int p1), .val (.ref b1), .val (.ref b2), .val (.ref b4), .val (.int (1 : Int32)), .val (.int ((((((((own_c_0 q0 (0 : Int32)) + (own_c_0 q0 (1 : Int32))) + (own_c_0 q0 (2 : Int32))) + (own_c_0 q0 (3 : Int32))) + (own_c_0 q0 (4 : Int32))) + (own_c_0 q0 (5 : Int32))) + (own_c_0 q0 (6 : Int32))) + (own_c_0 q0 (7 : Int32))))] []))
    refine own_st (fun _ k => XS.iconst X23.here hx rfl (hb hby at_193) k) ?_
    show own_Go p e below _ (T23.setTop (mkF m 194 #[.val (.long q0), .second, .val (.int p1), .val (.ref b1), .val (.ref b2), .val (.ref b4), .val (.int (1 : Int32)), .val (.int ((((((((own_c_0 q0 (0 : Int32)) + (own_c_0 q0 (1 : Int32))) + (own_c_0 q0 (2 : Int32))) + (own_c_0 q0 (3 : Int32))) + (own_c_0 q0 (4 : Int32))) + (own_c_0 q0 (5 : Int32))) + (own_c_0 q0 (6 : Int32))) + (own_c_0 q0 (7 : Int32))))] [(.int (1 : Int32))]))
    refine own_st (fun _ k => XS.goto X23.here hx rfl (pc0 := 194) (pc' := 198) rfl (hb hby at_194) (by decide) (by decide) k) ?_
    show own_Go p e below _ (T23.setTop (mkF m 198 #[.val (.long q0), .second, .val (.int p1), .val (.ref b1), .val (.ref b2), .val (.ref b4), .val (.int (1 : Int32)), .val (.int ((((((((own_c_0 q0 (0 : Int32)) + (own_c_0 q0 (1 : Int32))) + (own_c_0 q0 (2 : Int32))) + (own_c_0 q0 (3 : Int32))) + (own_c_0 q0 (4 : Int32))) + (own_c_0 q0 (5 : Int32))) + (own_c_0 q0 (6 : Int32))) + (own_c_0 q0 (7 : Int32))))] [(.int (1 : Int32))]))
    exact own_retZ X23 hx hlk hret rfl (hb hby at_198) ⟨rfl, N0⟩ (by decide) (by decide)
  · refine own_st (fun _ k => XS.ifYes X12.here hx rfl (pc0 := 105) (pc' := 112) rfl (hb hby at_105) rfl ((own_i0 _ _).trans (own_nno (hc105 : ¬ ((p1 &&& (128 : Int32)) = (0 : Int32))))) (by decide) (by decide) k) ?_
    show own_Go p e below _ (T12.setTop (mkF m 112 #[.val (.long q0), .second, .val (.int p1), .val (.ref b1), .val (.ref b2), .val (.ref b4), .unset, .unset] []))
    refine own_st (fun _ k => XS.iconst X12.here hx rfl (hb hby at_112) k) ?_
    show own_Go p e below _ (T12.setTop (mkF m 113 #[.val (.long q0), .second, .val (.int p1), .val (.ref b1), .val (.ref b2), .val (.ref b4), .unset, .unset] [(.int (0 : Int32))]))
    refine own_st (fun _ k => XS.istore X12.here hx rfl (hb hby at_113) rfl (l' := #[.val (.long q0), .second, .val (.int p1), .val (.ref b1), .val (.ref b2), .val (.ref b4), .val (.int (0 : Int32)), .unset]) rfl k) ?_
    show own_Go p e below _ (T12.setTop (mkF m 115 #[.val (.long q0), .second, .val (.int p1), .val (.ref b1), .val (.ref b2), .val (.ref b4), .val (.int (0 : Int32)), .unset] []))
    refine own_st (fun _ k => XS.lloadN X12.here hx rfl (hb hby at_115) rfl k) ?_
    show own_Go p e below _ (T12.setTop (mkF m 116 #[.val (.long q0), .second, .val (.int p1), .val (.ref b1), .val (.ref b2), .val (.ref b4), .val (.int (0 : Int32)), .unset] [(.long q0)]))
    refine own_st (fun _ k => XS.iconst X12.here hx rfl (hb hby at_116) k) ?_
    show own_Go p e below _ (T12.setTop (mkF m 117 #[.val (.long q0), .second, .val (.int p1), .val (.ref b1), .val (.ref b2), .val (.ref b4), .val (.int (0 : Int32)), .unset] [(.int (0 : Int32)), (.long q0)]))
    obtain ⟨_, T24, _, X24, ⟨rfl, rfl, e24⟩, st24⟩ := own_callS X12 hx hZ (y := (⟨"com/example/stratum_codecs/stratumcodecs/OrdinalListsCountPinLaw", "clear", "(JI)I"⟩ : MethodName)) (argsL := [(.long q0), (.int (0 : Int32))]) (rest := []) (W := 0) (g := (mkF m 117 #[.val (.long q0), .second, .val (.int p1), .val (.ref b1), .val (.ref b2), .val (.ref b4), .val (.int (0 : Int32)), .unset] [(.int (0 : Int32)), (.long q0)])) (rm1 l Z tA hw q0 (0 : Int32) h12) hown (hw _ (List.mem_of_getElem? (i := 1) rfl)) (hw _ (List.mem_of_getElem? (i := 2) rfl)) (hw _ (List.mem_of_getElem? (i := 3) rfl)) (hw _ (List.mem_of_getElem? (i := 4) rfl)) (by decide) e12 rfl (by rw [hml]; rfl) pd_0 rfl rfl (by show 2 * 0 + _ ≤ _; exact Nat.le_of_eq rfl) (hb hby at_117) (by decide) (by decide) (by decide) (by decide)
    replace X24 := own_flat X24
    refine own_st st24 ?_
    show own_Go p e below _ (T24.setTop (mkF m 120 #[.val (.long q0), .second, .val (.int p1), .val (.ref b1), .val (.ref b2), .val (.ref b4), .val (.int (0 : Int32)), .unset] [(.int (own_c_0 q0 (0 : Int32)))]))
    refine own_st (fun _ k => XS.lloadN X24.here hx rfl (hb hby at_120) rfl k) ?_
    show own_Go p e below _ (T24.setTop (mkF m 121 #[.val (.long q0), .second, .val (.int p1), .val (.ref b1), .val (.ref b2), .val (.ref b4), .val (.int (0 : Int32)), .unset] [(.long q0), (.int (own_c_0 q0 (0 : Int32)))]))
    refine own_st (fun _ k => XS.iconst X24.here hx rfl (hb hby at_121) k) ?_
    show own_Go p e below _ (T24.setTop (mkF m 122 #[.val (.long q0), .second, .val (.int p1), .val (.ref b1), .val (.ref b2), .val (.ref b4), .val (.int (0 : Int32)), .unset] [(.int (1 : Int32)), (.long q0), (.int (own_c_0 q0 (0 : Int32)))]))
    obtain ⟨_, T25, _, X25, ⟨rfl, rfl, e25⟩, st25⟩ := own_callS X24 hx hZ (y := (⟨"com/example/stratum_codecs/stratumcodecs/OrdinalListsCountPinLaw", "clear", "(JI)I"⟩ : MethodName)) (argsL := [(.long q0), (.int (1 : Int32))]) (rest := [(.int (own_c_0 q0 (0 : Int32)))]) (W := 1) (g := (mkF m 122 #[.val (.long q0), .second, .val (.int p1), .val (.ref b1), .val (.ref b2), .val (.ref b4), .val (.int (0 : Int32)), .unset] [(.int (1 : Int32)), (.long q0), (.int (own_c_0 q0 (0 : Int32)))])) (rm1 l Z tA hw q0 (1 : Int32) h12) hown (hw _ (List.mem_of_getElem? (i := 1) rfl)) (hw _ (List.mem_of_getElem? (i := 2) rfl)) (hw _ (List.mem_of_getElem? (i := 3) rfl)) (hw _ (List.mem_of_getElem? (i := 4) rfl)) (by decide) e24 rfl (by rw [hml]; rfl) pd_0 rfl rfl (by show 2 * 0 + _ ≤ _; exact Nat.le_of_eq rfl) (hb hby at_122) (by decide) (by decide) (by decide) (by decide)
    replace X25 := own_flat X25
    refine own_st st25 ?_
    show own_Go p e below _ (T25.setTop (mkF m 125 #[.val (.long q0), .second, .val (.int p1), .val (.ref b1), .val (.ref b2), .val (.ref b4), .val (.int (0 : Int32)), .unset] [(.int (own_c_0 q0 (1 : Int32))), (.int (own_c_0 q0 (0 : Int32)))]))
    refine own_st (fun _ k => XS.iadd X25.here hx rfl (hb hby at_125) rfl k) ?_
    show own_Go p e below _ (T25.setTop (mkF m 126 #[.val (.long q0), .second, .val (.int p1), .val (.ref b1), .val (.ref b2), .val (.ref b4), .val (.int (0 : Int32)), .unset] [(.int ((own_c_0 q0 (0 : Int32)) + (own_c_0 q0 (1 : Int32))))]))
    refine own_st (fun _ k => XS.lloadN X25.here hx rfl (hb hby at_126) rfl k) ?_
    show own_Go p e below _ (T25.setTop (mkF m 127 #[.val (.long q0), .second, .val (.int p1), .val (.ref b1), .val (.ref b2), .val (.ref b4), .val (.int (0 : Int32)), .unset] [(.long q0), (.int ((own_c_0 q0 (0 : Int32)) + (own_c_0 q0 (1 : Int32))))]))
    refine own_st (fun _ k => XS.iconst X25.here hx rfl (hb hby at_127) k) ?_
    show own_Go p e below _ (T25.setTop (mkF m 128 #[.val (.long q0), .second, .val (.int p1), .val (.ref b1), .val (.ref b2), .val (.ref b4), .val (.int (0 : Int32)), .unset] [(.int (2 : Int32)), (.long q0), (.int ((own_c_0 q0 (0 : Int32)) + (own_c_0 q0 (1 : Int32))))]))
    obtain ⟨_, T26, _, X26, ⟨rfl, rfl, e26⟩, st26⟩ := own_callS X25 hx hZ (y := (⟨"com/example/stratum_codecs/stratumcodecs/OrdinalListsCountPinLaw", "clear", "(JI)I"⟩ : MethodName)) (argsL := [(.long q0), (.int (2 : Int32))]) (rest := [(.int ((own_c_0 q0 (0 : Int32)) + (own_c_0 q0 (1 : Int32))))]) (W := 1) (g := (mkF m 128 #[.val (.long q0), .second, .val (.int p1), .val (.ref b1), .val (.ref b2), .val (.ref b4), .val (.int (0 : Int32)), .unset] [(.int (2 : Int32)), (.long q0), (.int ((own_c_0 q0 (0 : Int32)) + (own_c_0 q0 (1 : Int32))))])) (rm1 l Z tA hw q0 (2 : Int32) h12) hown (hw _ (List.mem_of_getElem? (i := 1) rfl)) (hw _ (List.mem_of_getElem? (i := 2) rfl)) (hw _ (List.mem_of_getElem? (i := 3) rfl)) (hw _ (List.mem_of_getElem? (i := 4) rfl)) (by decide) e25 rfl (by rw [hml]; rfl) pd_0 rfl rfl (by show 2 * 0 + _ ≤ _; exact Nat.le_of_eq rfl) (hb hby at_128) (by decide) (by decide) (by decide) (by decide)
    replace X26 := own_flat X26
    refine own_st st26 ?_
    show own_Go p e below _ (T26.setTop (mkF m 131 #[.val (.long q0), .second, .val (.int p1), .val (.ref b1), .val (.ref b2), .val (.ref b4), .val (.int (0 : Int32)), .unset] [(.int (own_c_0 q0 (2 : Int32))), (.int ((own_c_0 q0 (0 : Int32)) + (own_c_0 q0 (1 : Int32))))]))
    refine own_st (fun _ k => XS.iadd X26.here hx rfl (hb hby at_131) rfl k) ?_
    show own_Go p e below _ (T26.setTop (mkF m 132 #[.val (.long q0), .second, .val (.int p1), .val (.ref b1), .val (.ref b2), .val (.ref b4), .val (.int (0 : Int32)), .unset] [(.int (((own_c_0 q0 (0 : Int32)) + (own_c_0 q0 (1 : Int32))) + (own_c_0 q0 (2 : Int32))))]))
    refine own_st (fun _ k => XS.lloadN X26.here hx rfl (hb hby at_132) rfl k) ?_
    show own_Go p e below _ (T26.setTop (mkF m 133 #[.val (.long q0), .second, .val (.int p1), .val (.ref b1), .val (.ref b2), .val (.ref b4), .val (.int (0 : Int32)), .unset] [(.long q0), (.int (((own_c_0 q0 (0 : Int32)) + (own_c_0 q0 (1 : Int32))) + (own_c_0 q0 (2 : Int32))))]))
    refine own_st (fun _ k => XS.iconst X26.here hx rfl (hb hby at_133) k) ?_
    show own_Go p e below _ (T26.setTop (mkF m 134 #[.val (.long q0), .second, .val (.int p1), .val (.ref b1), .val (.ref b2), .val (.ref b4), .val (.int (0 : Int32)), .unset] [(.int (3 : Int32)), (.long q0), (.int (((own_c_0 q0 (0 : Int32)) + (own_c_0 q0 (1 : Int32))) + (own_c_0 q0 (2 : Int32))))]))
    obtain ⟨_, T27, _, X27, ⟨rfl, rfl, e27⟩, st27⟩ := own_callS X26 hx hZ (y := (⟨"com/example/stratum_codecs/stratumcodecs/OrdinalListsCountPinLaw", "clear", "(JI)I"⟩ : MethodName)) (argsL := [(.long q0), (.int (3 : Int32))]) (rest := [(.int (((own_c_0 q0 (0 : Int32)) + (own_c_0 q0 (1 : Int32))) + (own_c_0 q0 (2 : Int32))))]) (W := 1) (g := (mkF m 134 #[.val (.long q0), .second, .val (.int p1), .val (.ref b1), .val (.ref b2), .val (.ref b4), .val (.int (0 : Int32)), .unset] [(.int (3 : Int32)), (.long q0), (.int (((own_c_0 q0 (0 : Int32)) + (own_c_0 q0 (1 : Int32))) + (own_c_0 q0 (2 : Int32))))])) (rm1 l Z tA hw q0 (3 : Int32) h12) hown (hw _ (List.mem_of_getElem? (i := 1) rfl)) (hw _ (List.mem_of_getElem? (i := 2) rfl)) (hw _ (List.mem_of_getElem? (i := 3) rfl)) (hw _ (List.mem_of_getElem? (i := 4) rfl)) (by decide) e26 rfl (by rw [hml]; rfl) pd_0 rfl rfl (by show 2 * 0 + _ ≤ _; exact Nat.le_of_eq rfl) (hb hby at_134) (by decide) (by decide) (by decide) (by decide)
    replace X27 := own_flat X27
    refine own_st st27 ?_
    show own_Go p e below _ (T27.setTop (mkF m 137 #[.val (.long q0), .second, .val (.int p1), .val (.ref b1), .val (.ref b2), .val (.ref b4), .val (.int (0 : Int32)), .unset] [(.int (own_c_0 q0 (3 : Int32))), (.int (((own_c_0 q0 (0 : Int32)) + (own_c_0 q0 (1 : Int32))) + (own_c_0 q0 (2 : Int32))))]))
    refine own_st (fun _ k => XS.iadd X27.here hx rfl (hb hby at_137) rfl k) ?_
    show own_Go p e below _ (T27.setTop (mkF m 138 #[.val (.long q0), .second, .val (.int p1), .val (.ref b1), .val (.ref b2), .val (.ref b4), .val (.int (0 : Int32)), .unset] [(.int ((((own_c_0 q0 (0 : Int32)) + (own_c_0 q0 (1 : Int32))) + (own_c_0 q0 (2 : Int32))) + (own_c_0 q0 (3 : Int32))))]))
    refine own_st (fun _ k => XS.lloadN X27.here hx rfl (hb hby at_138) rfl k) ?_
    show own_Go p e below _ (T27.setTop (mkF m 139 #[.val (.long q0), .second, .val (.int p1), .val (.ref b1), .val (.ref b2), .val (.ref b4), .val (.int (0 : Int32)), .unset] [(.long q0), (.int ((((own_c_0 q0 (0 : Int32)) + (own_c_0 q0 (1 : Int32))) + (own_c_0 q0 (2 : Int32))) + (own_c_0 q0 (3 : Int32))))]))
    refine own_st (fun _ k => XS.iconst X27.here hx rfl (hb hby at_139) k) ?_
    show own_Go p e below _ (T27.setTop (mkF m 140 #[.val (.long q0), .second, .val (.int p1), .val (.ref b1), .val (.ref b2), .val (.ref b4), .val (.int (0 : Int32)), .unset] [(.int (4 : Int32)), (.long q0), (.int ((((own_c_0 q0 (0 : Int32)) + (own_c_0 q0 (1 : Int32))) + (own_c_0 q0 (2 : Int32))) + (own_c_0 q0 (3 : Int32))))]))
    obtain ⟨_, T28, _, X28, ⟨rfl, rfl, e28⟩, st28⟩ := own_callS X27 hx hZ (y := (⟨"com/example/stratum_codecs/stratumcodecs/OrdinalListsCountPinLaw", "clear", "(JI)I"⟩ : MethodName)) (argsL := [(.long q0), (.int (4 : Int32))]) (rest := [(.int ((((own_c_0 q0 (0 : Int32)) + (own_c_0 q0 (1 : Int32))) + (own_c_0 q0 (2 : Int32))) + (own_c_0 q0 (3 : Int32))))]) (W := 1) (g := (mkF m 140 #[.val (.long q0), .second, .val (.int p1), .val (.ref b1), .val (.ref b2), .val (.ref b4), .val (.int (0 : Int32)), .unset] [(.int (4 : Int32)), (.long q0), (.int ((((own_c_0 q0 (0 : Int32)) + (own_c_0 q0 (1 : Int32))) + (own_c_0 q0 (2 : Int32))) + (own_c_0 q0 (3 : Int32))))])) (rm1 l Z tA hw q0 (4 : Int32) h12) hown (hw _ (List.mem_of_getElem? (i := 1) rfl)) (hw _ (List.mem_of_getElem? (i := 2) rfl)) (hw _ (List.mem_of_getElem? (i := 3) rfl)) (hw _ (List.mem_of_getElem? (i := 4) rfl)) (by decide) e27 rfl (by rw [hml]; rfl) pd_0 rfl rfl (by show 2 * 0 + _ ≤ _; exact Nat.le_of_eq rfl) (hb hby at_140) (by decide) (by decide) (by decide) (by decide)
    replace X28 := own_flat X28
    refine own_st st28 ?_
    show own_Go p e below _ (T28.setTop (mkF m 143 #[.val (.long q0), .second, .val (.int p1), .val (.ref b1), .val (.ref b2), .val (.ref b4), .val (.int (0 : Int32)), .unset] [(.int (own_c_0 q0 (4 : Int32))), (.int ((((own_c_0 q0 (0 : Int32)) + (own_c_0 q0 (1 : Int32))) + (own_c_0 q0 (2 : Int32))) + (own_c_0 q0 (3 : Int32))))]))
    refine own_st (fun _ k => XS.iadd X28.here hx rfl (hb hby at_143) rfl k) ?_
    show own_Go p e below _ (T28.setTop (mkF m 144 #[.val (.long q0), .second, .val (.int p1), .val (.ref b1), .val (.ref b2), .val (.ref b4), .val (.int (0 : Int32)), .unset] [(.int (((((own_c_0 q0 (0 : Int32)) + (own_c_0 q0 (1 : Int32))) + (own_c_0 q0 (2 : Int32))) + (own_c_0 q0 (3 : Int32))) + (own_c_0 q0 (4 : Int32))))]))
    refine own_st (fun _ k => XS.lloadN X28.here hx rfl (hb hby at_144) rfl k) ?_
    show own_Go p e below _ (T28.setTop (mkF m 145 #[.val (.long q0), .second, .val (.int p1), .val (.ref b1), .val (.ref b2), .val (.ref b4), .val (.int (0 : Int32)), .unset] [(.long q0), (.int (((((own_c_0 q0 (0 : Int32)) + (own_c_0 q0 (1 : Int32))) + (own_c_0 q0 (2 : Int32))) + (own_c_0 q0 (3 : Int32))) + (own_c_0 q0 (4 : Int32))))]))
    refine own_st (fun _ k => XS.iconst X28.here hx rfl (hb hby at_145) k) ?_
    show own_Go p e below _ (T28.setTop (mkF m 146 #[.val (.long q0), .second, .val (.int p1), .val (.ref b1), .val (.ref b2), .val (.ref b4), .val (.int (0 : Int32)), .unset] [(.int (5 : Int32)), (.long q0), (.int (((((own_c_0 q0 (0 : Int32)) + (own_c_0 q0 (1 : Int32))) + (own_c_0 q0 (2 : Int32))) + (own_c_0 q0 (3 : Int32))) + (own_c_0 q0 (4 : Int32))))]))
    obtain ⟨_, T29, _, X29, ⟨rfl, rfl, e29⟩, st29⟩ := own_callS X28 hx hZ (y := (⟨"com/example/stratum_codecs/stratumcodecs/OrdinalListsCountPinLaw", "clear", "(JI)I"⟩ : MethodName)) (argsL := [(.long q0), (.int (5 : Int32))]) (rest := [(.int (((((own_c_0 q0 (0 : Int32)) + (own_c_0 q0 (1 : Int32))) + (own_c_0 q0 (2 : Int32))) + (own_c_0 q0 (3 : Int32))) + (own_c_0 q0 (4 : Int32))))]) (W := 1) (g := (mkF m 146 #[.val (.long q0), .second, .val (.int p1), .val (.ref b1), .val (.ref b2), .val (.ref b4), .val (.int (0 : Int32)), .unset] [(.int (5 : Int32)), (.long q0), (.int (((((own_c_0 q0 (0 : Int32)) + (own_c_0 q0 (1 : Int32))) + (own_c_0 q0 (2 : Int32))) + (own_c_0 q0 (3 : Int32))) + (own_c_0 q0 (4 : Int32))))])) (rm1 l Z tA hw q0 (5 : Int32) h12) hown (hw _ (List.mem_of_getElem? (i := 1) rfl)) (hw _ (List.mem_of_getElem? (i := 2) rfl)) (hw _ (List.mem_of_getElem? (i := 3) rfl)) (hw _ (List.mem_of_getElem? (i := 4) rfl)) (by decide) e28 rfl (by rw [hml]; rfl) pd_0 rfl rfl (by show 2 * 0 + _ ≤ _; exact Nat.le_of_eq rfl) (hb hby at_146) (by decide) (by decide) (by decide) (by decide)
    replace X29 := own_flat X29
    refine own_st st29 ?_
    show own_Go p e below _ (T29.setTop (mkF m 149 #[.val (.long q0), .second, .val (.int p1), .val (.ref b1), .val (.ref b2), .val (.ref b4), .val (.int (0 : Int32)), .unset] [(.int (own_c_0 q0 (5 : Int32))), (.int (((((own_c_0 q0 (0 : Int32)) + (own_c_0 q0 (1 : Int32))) + (own_c_0 q0 (2 : Int32))) + (own_c_0 q0 (3 : Int32))) + (own_c_0 q0 (4 : Int32))))]))
    refine own_st (fun _ k => XS.iadd X29.here hx rfl (hb hby at_149) rfl k) ?_
    show own_Go p e below _ (T29.setTop (mkF m 150 #[.val (.long q0), .second, .val (.int p1), .val (.ref b1), .val (.ref b2), .val (.ref b4), .val (.int (0 : Int32)), .unset] [(.int ((((((own_c_0 q0 (0 : Int32)) + (own_c_0 q0 (1 : Int32))) + (own_c_0 q0 (2 : Int32))) + (own_c_0 q0 (3 : Int32))) + (own_c_0 q0 (4 : Int32))) + (own_c_0 q0 (5 : Int32))))]))
    refine own_st (fun _ k => XS.lloadN X29.here hx rfl (hb hby at_150) rfl k) ?_
    show own_Go p e below _ (T29.setTop (mkF m 151 #[.val (.long q0), .second, .val (.int p1), .val (.ref b1), .val (.ref b2), .val (.ref b4), .val (.int (0 : Int32)), .unset] [(.long q0), (.int ((((((own_c_0 q0 (0 : Int32)) + (own_c_0 q0 (1 : Int32))) + (own_c_0 q0 (2 : Int32))) + (own_c_0 q0 (3 : Int32))) + (own_c_0 q0 (4 : Int32))) + (own_c_0 q0 (5 : Int32))))]))
    refine own_st (fun _ k => XS.bipush X29.here hx rfl (hb hby at_151) k) ?_
    show own_Go p e below _ (T29.setTop (mkF m 153 #[.val (.long q0), .second, .val (.int p1), .val (.ref b1), .val (.ref b2), .val (.ref b4), .val (.int (0 : Int32)), .unset] [(.int (6 : Int32)), (.long q0), (.int ((((((own_c_0 q0 (0 : Int32)) + (own_c_0 q0 (1 : Int32))) + (own_c_0 q0 (2 : Int32))) + (own_c_0 q0 (3 : Int32))) + (own_c_0 q0 (4 : Int32))) + (own_c_0 q0 (5 : Int32))))]))
    obtain ⟨_, T30, _, X30, ⟨rfl, rfl, e30⟩, st30⟩ := own_callS X29 hx hZ (y := (⟨"com/example/stratum_codecs/stratumcodecs/OrdinalListsCountPinLaw", "clear", "(JI)I"⟩ : MethodName)) (argsL := [(.long q0), (.int (6 : Int32))]) (rest := [(.int ((((((own_c_0 q0 (0 : Int32)) + (own_c_0 q0 (1 : Int32))) + (own_c_0 q0 (2 : Int32))) + (own_c_0 q0 (3 : Int32))) + (own_c_0 q0 (4 : Int32))) + (own_c_0 q0 (5 : Int32))))]) (W := 1) (g := (mkF m 153 #[.val (.long q0), .second, .val (.int p1), .val (.ref b1), .val (.ref b2), .val (.ref b4), .val (.int (0 : Int32)), .unset] [(.int (6 : Int32)), (.long q0), (.int ((((((own_c_0 q0 (0 : Int32)) + (own_c_0 q0 (1 : Int32))) + (own_c_0 q0 (2 : Int32))) + (own_c_0 q0 (3 : Int32))) + (own_c_0 q0 (4 : Int32))) + (own_c_0 q0 (5 : Int32))))])) (rm1 l Z tA hw q0 (6 : Int32) h12) hown (hw _ (List.mem_of_getElem? (i := 1) rfl)) (hw _ (List.mem_of_getElem? (i := 2) rfl)) (hw _ (List.mem_of_getElem? (i := 3) rfl)) (hw _ (List.mem_of_getElem? (i := 4) rfl)) (by decide) e29 rfl (by rw [hml]; rfl) pd_0 rfl rfl (by show 2 * 0 + _ ≤ _; exact Nat.le_of_eq rfl) (hb hby at_153) (by decide) (by decide) (by decide) (by decide)
    replace X30 := own_flat X30
    refine own_st st30 ?_
    show own_Go p e below _ (T30.setTop (mkF m 156 #[.val (.long q0), .second, .val (.int p1), .val (.ref b1), .val (.ref b2), .val (.ref b4), .val (.int (0 : Int32)), .unset] [(.int (own_c_0 q0 (6 : Int32))), (.int ((((((own_c_0 q0 (0 : Int32)) + (own_c_0 q0 (1 : Int32))) + (own_c_0 q0 (2 : Int32))) + (own_c_0 q0 (3 : Int32))) + (own_c_0 q0 (4 : Int32))) + (own_c_0 q0 (5 : Int32))))]))
    refine own_st (fun _ k => XS.iadd X30.here hx rfl (hb hby at_156) rfl k) ?_
    show own_Go p e below _ (T30.setTop (mkF m 157 #[.val (.long q0), .second, .val (.int p1), .val (.ref b1), .val (.ref b2), .val (.ref b4), .val (.int (0 : Int32)), .unset] [(.int (((((((own_c_0 q0 (0 : Int32)) + (own_c_0 q0 (1 : Int32))) + (own_c_0 q0 (2 : Int32))) + (own_c_0 q0 (3 : Int32))) + (own_c_0 q0 (4 : Int32))) + (own_c_0 q0 (5 : Int32))) + (own_c_0 q0 (6 : Int32))))]))
    refine own_st (fun _ k => XS.lloadN X30.here hx rfl (hb hby at_157) rfl k) ?_
    show own_Go p e below _ (T30.setTop (mkF m 158 #[.val (.long q0), .second, .val (.int p1), .val (.ref b1), .val (.ref b2), .val (.ref b4), .val (.int (0 : Int32)), .unset] [(.long q0), (.int (((((((own_c_0 q0 (0 : Int32)) + (own_c_0 q0 (1 : Int32))) + (own_c_0 q0 (2 : Int32))) + (own_c_0 q0 (3 : Int32))) + (own_c_0 q0 (4 : Int32))) + (own_c_0 q0 (5 : Int32))) + (own_c_0 q0 (6 : Int32))))]))
    refine own_st (fun _ k => XS.bipush X30.here hx rfl (hb hby at_158) k) ?_
    show own_Go p e below _ (T30.setTop (mkF m 160 #[.val (.long q0), .second, .val (.int p1), .val (.ref b1), .val (.ref b2), .val (.ref b4), .val (.int (0 : Int32)), .unset] [(.int (7 : Int32)), (.long q0), (.int (((((((own_c_0 q0 (0 : Int32)) + (own_c_0 q0 (1 : Int32))) + (own_c_0 q0 (2 : Int32))) + (own_c_0 q0 (3 : Int32))) + (own_c_0 q0 (4 : Int32))) + (own_c_0 q0 (5 : Int32))) + (own_c_0 q0 (6 : Int32))))]))
    obtain ⟨_, T31, _, X31, ⟨rfl, rfl, e31⟩, st31⟩ := own_callS X30 hx hZ (y := (⟨"com/example/stratum_codecs/stratumcodecs/OrdinalListsCountPinLaw", "clear", "(JI)I"⟩ : MethodName)) (argsL := [(.long q0), (.int (7 : Int32))]) (rest := [(.int (((((((own_c_0 q0 (0 : Int32)) + (own_c_0 q0 (1 : Int32))) + (own_c_0 q0 (2 : Int32))) + (own_c_0 q0 (3 : Int32))) + (own_c_0 q0 (4 : Int32))) + (own_c_0 q0 (5 : Int32))) + (own_c_0 q0 (6 : Int32))))]) (W := 1) (g := (mkF m 160 #[.val (.long q0), .second, .val (.int p1), .val (.ref b1), .val (.ref b2), .val (.ref b4), .val (.int (0 : Int32)), .unset] [(.int (7 : Int32)), (.long q0), (.int (((((((own_c_0 q0 (0 : Int32)) + (own_c_0 q0 (1 : Int32))) + (own_c_0 q0 (2 : Int32))) + (own_c_0 q0 (3 : Int32))) + (own_c_0 q0 (4 : Int32))) + (own_c_0 q0 (5 : Int32))) + (own_c_0 q0 (6 : Int32))))])) (rm1 l Z tA hw q0 (7 : Int32) h12) hown (hw _ (List.mem_of_getElem? (i := 1) rfl)) (hw _ (List.mem_of_getElem? (i := 2) rfl)) (hw _ (List.mem_of_getElem? (i := 3) rfl)) (hw _ (List.mem_of_getElem? (i := 4) rfl)) (by decide) e30 rfl (by rw [hml]; rfl) pd_0 rfl rfl (by show 2 * 0 + _ ≤ _; exact Nat.le_of_eq rfl) (hb hby at_160) (by decide) (by decide) (by decide) (by decide)
    replace X31 := own_flat X31
    refine own_st st31 ?_
    show own_Go p e below _ (T31.setTop (mkF m 163 #[.val (.long q0), .second, .val (.int p1), .val (.ref b1), .val (.ref b2), .val (.ref b4), .val (.int (0 : Int32)), .unset] [(.int (own_c_0 q0 (7 : Int32))), (.int (((((((own_c_0 q0 (0 : Int32)) + (own_c_0 q0 (1 : Int32))) + (own_c_0 q0 (2 : Int32))) + (own_c_0 q0 (3 : Int32))) + (own_c_0 q0 (4 : Int32))) + (own_c_0 q0 (5 : Int32))) + (own_c_0 q0 (6 : Int32))))]))
    refine own_st (fun _ k => XS.iadd X31.here hx rfl (hb hby at_163) rfl k) ?_
    show own_Go p e below _ (T31.setTop (mkF m 164 #[.val (.long q0), .second, .val (.int p1), .val (.ref b1), .val (.ref b2), .val (.ref b4), .val (.int (0 : Int32)), .unset] [(.int ((((((((own_c_0 q0 (0 : Int32)) + (own_c_0 q0 (1 : Int32))) + (own_c_0 q0 (2 : Int32))) + (own_c_0 q0 (3 : Int32))) + (own_c_0 q0 (4 : Int32))) + (own_c_0 q0 (5 : Int32))) + (own_c_0 q0 (6 : Int32))) + (own_c_0 q0 (7 : Int32))))]))
    refine own_st (fun _ k => XS.istore X31.here hx rfl (hb hby at_164) rfl (l' := #[.val (.long q0), .second, .val (.int p1), .val (.ref b1), .val (.ref b2), .val (.ref b4), .val (.int (0 : Int32)), .val (.int ((((((((own_c_0 q0 (0 : Int32)) + (own_c_0 q0 (1 : Int32))) + (own_c_0 q0 (2 : Int32))) + (own_c_0 q0 (3 : Int32))) + (own_c_0 q0 (4 : Int32))) + (own_c_0 q0 (5 : Int32))) + (own_c_0 q0 (6 : Int32))) + (own_c_0 q0 (7 : Int32))))]) rfl k) ?_
    show own_Go p e below _ (T31.setTop (mkF m 166 #[.val (.long q0), .second, .val (.int p1), .val (.ref b1), .val (.ref b2), .val (.ref b4), .val (.int (0 : Int32)), .val (.int ((((((((own_c_0 q0 (0 : Int32)) + (own_c_0 q0 (1 : Int32))) + (own_c_0 q0 (2 : Int32))) + (own_c_0 q0 (3 : Int32))) + (own_c_0 q0 (4 : Int32))) + (own_c_0 q0 (5 : Int32))) + (own_c_0 q0 (6 : Int32))) + (own_c_0 q0 (7 : Int32))))] []))
    refine own_st (fun _ k => XS.aloadN X31.here hx rfl (hb hby at_166) rfl rfl k) ?_
    show own_Go p e below _ (T31.setTop (mkF m 167 #[.val (.long q0), .second, .val (.int p1), .val (.ref b1), .val (.ref b2), .val (.ref b4), .val (.int (0 : Int32)), .val (.int ((((((((own_c_0 q0 (0 : Int32)) + (own_c_0 q0 (1 : Int32))) + (own_c_0 q0 (2 : Int32))) + (own_c_0 q0 (3 : Int32))) + (own_c_0 q0 (4 : Int32))) + (own_c_0 q0 (5 : Int32))) + (own_c_0 q0 (6 : Int32))) + (own_c_0 q0 (7 : Int32))))] [(.ref b1)]))
    obtain ⟨_, T32, _, X32, ⟨rfl, rfl, e32⟩, st32⟩ := own_callS X31 hx hZ (y := (⟨"com/example/stratum_codecs/stratumcodecs/OrdinalLists", "count", "([B)I"⟩ : MethodName)) (argsL := [(.ref b1)]) (rest := []) (W := 0) (g := (mkF m 167 #[.val (.long q0), .second, .val (.int p1), .val (.ref b1), .val (.ref b2), .val (.ref b4), .val (.int (0 : Int32)), .val (.int ((((((((own_c_0 q0 (0 : Int32)) + (own_c_0 q0 (1 : Int32))) + (own_c_0 q0 (2 : Int32))) + (own_c_0 q0 (3 : Int32))) + (own_c_0 q0 (4 : Int32))) + (own_c_0 q0 (5 : Int32))) + (own_c_0 q0 (6 : Int32))) + (own_c_0 q0 (7 : Int32))))] [(.ref b1)])) (rm2 l Z tA hw b1 k1 (0 : Int32) [] h12 rfl V_b1) hown (hw _ (List.mem_of_getElem? (i := 5) rfl)) (hw _ (List.mem_of_getElem? (i := 6) rfl)) (hw _ (List.mem_of_getElem? (i := 7) rfl)) (hw _ (List.mem_of_getElem? (i := 8) rfl)) (by decide) e31 rfl (by rw [hml]; rfl) pd_1 rfl rfl (by show 2 * 0 + _ ≤ _; exact Nat.le_of_eq rfl) (hb hby at_167) (by decide) (by decide) (by decide) (by decide)
    replace X32 := own_flat X32
    refine own_st st32 ?_
    show own_Go p e below _ (T32.setTop (mkF m 170 #[.val (.long q0), .second, .val (.int p1), .val (.ref b1), .val (.ref b2), .val (.ref b4), .val (.int (0 : Int32)), .val (.int ((((((((own_c_0 q0 (0 : Int32)) + (own_c_0 q0 (1 : Int32))) + (own_c_0 q0 (2 : Int32))) + (own_c_0 q0 (3 : Int32))) + (own_c_0 q0 (4 : Int32))) + (own_c_0 q0 (5 : Int32))) + (own_c_0 q0 (6 : Int32))) + (own_c_0 q0 (7 : Int32))))] [(.int (own_cnt (0 : Int32) []))]))
    refine own_st (fun _ k => XS.ifNo X32.here hx rfl (hb hby at_170) rfl ((own_i0 _ _).trans (own_nyes (rfl : (own_cnt (0 : Int32) []) = (0 : Int32)))) k) ?_
    show own_Go p e below _ (T32.setTop (mkF m 173 #[.val (.long q0), .second, .val (.int p1), .val (.ref b1), .val (.ref b2), .val (.ref b4), .val (.int (0 : Int32)), .val (.int ((((((((own_c_0 q0 (0 : Int32)) + (own_c_0 q0 (1 : Int32))) + (own_c_0 q0 (2 : Int32))) + (own_c_0 q0 (3 : Int32))) + (own_c_0 q0 (4 : Int32))) + (own_c_0 q0 (5 : Int32))) + (own_c_0 q0 (6 : Int32))) + (own_c_0 q0 (7 : Int32))))] []))
    refine own_st (fun _ k => XS.aload X32.here hx rfl (hb hby at_173) rfl rfl k) ?_
    show own_Go p e below _ (T32.setTop (mkF m 175 #[.val (.long q0), .second, .val (.int p1), .val (.ref b1), .val (.ref b2), .val (.ref b4), .val (.int (0 : Int32)), .val (.int ((((((((own_c_0 q0 (0 : Int32)) + (own_c_0 q0 (1 : Int32))) + (own_c_0 q0 (2 : Int32))) + (own_c_0 q0 (3 : Int32))) + (own_c_0 q0 (4 : Int32))) + (own_c_0 q0 (5 : Int32))) + (own_c_0 q0 (6 : Int32))) + (own_c_0 q0 (7 : Int32))))] [(.ref b2)]))
    obtain ⟨_, T33, _, X33, ⟨rfl, rfl, e33⟩, st33⟩ := own_callS X32 hx hZ (y := (⟨"com/example/stratum_codecs/stratumcodecs/OrdinalLists", "count", "([B)I"⟩ : MethodName)) (argsL := [(.ref b2)]) (rest := []) (W := 0) (g := (mkF m 175 #[.val (.long q0), .second, .val (.int p1), .val (.ref b1), .val (.ref b2), .val (.ref b4), .val (.int (0 : Int32)), .val (.int ((((((((own_c_0 q0 (0 : Int32)) + (own_c_0 q0 (1 : Int32))) + (own_c_0 q0 (2 : Int32))) + (own_c_0 q0 (3 : Int32))) + (own_c_0 q0 (4 : Int32))) + (own_c_0 q0 (5 : Int32))) + (own_c_0 q0 (6 : Int32))) + (own_c_0 q0 (7 : Int32))))] [(.ref b2)])) (rm2 l Z tA hw b2 k2 (1 : Int32) [(nar .byte (p1.toInt8.toInt32))] h12 rfl V_b2) hown (hw _ (List.mem_of_getElem? (i := 5) rfl)) (hw _ (List.mem_of_getElem? (i := 6) rfl)) (hw _ (List.mem_of_getElem? (i := 7) rfl)) (hw _ (List.mem_of_getElem? (i := 8) rfl)) (by decide) e32 rfl (by rw [hml]; rfl) pd_1 rfl rfl (by show 2 * 0 + _ ≤ _; exact Nat.le_of_eq rfl) (hb hby at_175) (by decide) (by decide) (by decide) (by decide)
    replace X33 := own_flat X33
    refine own_st st33 ?_
    show own_Go p e below _ (T33.setTop (mkF m 178 #[.val (.long q0), .second, .val (.int p1), .val (.ref b1), .val (.ref b2), .val (.ref b4), .val (.int (0 : Int32)), .val (.int ((((((((own_c_0 q0 (0 : Int32)) + (own_c_0 q0 (1 : Int32))) + (own_c_0 q0 (2 : Int32))) + (own_c_0 q0 (3 : Int32))) + (own_c_0 q0 (4 : Int32))) + (own_c_0 q0 (5 : Int32))) + (own_c_0 q0 (6 : Int32))) + (own_c_0 q0 (7 : Int32))))] [(.int (own_cnt (0 : Int32) [(nar .byte (p1.toInt8.toInt32))]))]))
    refine own_st (fun _ k => XS.iload X33.here hx rfl (hb hby at_178) rfl k) ?_
    show own_Go p e below _ (T33.setTop (mkF m 180 #[.val (.long q0), .second, .val (.int p1), .val (.ref b1), .val (.ref b2), .val (.ref b4), .val (.int (0 : Int32)), .val (.int ((((((((own_c_0 q0 (0 : Int32)) + (own_c_0 q0 (1 : Int32))) + (own_c_0 q0 (2 : Int32))) + (own_c_0 q0 (3 : Int32))) + (own_c_0 q0 (4 : Int32))) + (own_c_0 q0 (5 : Int32))) + (own_c_0 q0 (6 : Int32))) + (own_c_0 q0 (7 : Int32))))] [(.int (0 : Int32)), (.int (own_cnt (0 : Int32) [(nar .byte (p1.toInt8.toInt32))]))]))
    refine own_st (fun _ k => XS.icmpNo X33.here hx rfl (hb hby at_180) rfl ((own_i2 _ _ _).trans (own_nyes ((own_one1 p1 hc105) : (own_cnt (0 : Int32) [(nar .byte (p1.toInt8.toInt32))]) = (0 : Int32)))) k) ?_
    show own_Go p e below _ (T33.setTop (mkF m 183 #[.val (.long q0), .second, .val (.int p1), .val (.ref b1), .val (.ref b2), .val (.ref b4), .val (.int (0 : Int32)), .val (.int ((((((((own_c_0 q0 (0 : Int32)) + (own_c_0 q0 (1 : Int32))) + (own_c_0 q0 (2 : Int32))) + (own_c_0 q0 (3 : Int32))) + (own_c_0 q0 (4 : Int32))) + (own_c_0 q0 (5 : Int32))) + (own_c_0 q0 (6 : Int32))) + (own_c_0 q0 (7 : Int32))))] []))
    refine own_st (fun _ k => XS.aload X33.here hx rfl (hb hby at_183) rfl rfl k) ?_
    show own_Go p e below _ (T33.setTop (mkF m 185 #[.val (.long q0), .second, .val (.int p1), .val (.ref b1), .val (.ref b2), .val (.ref b4), .val (.int (0 : Int32)), .val (.int ((((((((own_c_0 q0 (0 : Int32)) + (own_c_0 q0 (1 : Int32))) + (own_c_0 q0 (2 : Int32))) + (own_c_0 q0 (3 : Int32))) + (own_c_0 q0 (4 : Int32))) + (own_c_0 q0 (5 : Int32))) + (own_c_0 q0 (6 : Int32))) + (own_c_0 q0 (7 : Int32))))] [(.ref b4)]))
    obtain ⟨_, T34, _, X34, ⟨rfl, rfl, e34⟩, st34⟩ := own_callS X33 hx hZ (y := (⟨"com/example/stratum_codecs/stratumcodecs/OrdinalLists", "count", "([B)I"⟩ : MethodName)) (argsL := [(.ref b4)]) (rest := []) (W := 0) (g := (mkF m 185 #[.val (.long q0), .second, .val (.int p1), .val (.ref b1), .val (.ref b2), .val (.ref b4), .val (.int (0 : Int32)), .val (.int ((((((((own_c_0 q0 (0 : Int32)) + (own_c_0 q0 (1 : Int32))) + (own_c_0 q0 (2 : Int32))) + (own_c_0 q0 (3 : Int32))) + (own_c_0 q0 (4 : Int32))) + (own_c_0 q0 (5 : Int32))) + (own_c_0 q0 (6 : Int32))) + (own_c_0 q0 (7 : Int32))))] [(.ref b4)])) (rm2 l Z tA hw b4 k4 (8 : Int32) [(nar .byte ((q0.toInt32).toInt8.toInt32)), (nar .byte ((((q0.toUInt64 >>> ((8 : Int32) &&& 0x3f).toInt64.toUInt64).toInt64).toInt32).toInt8.toInt32)), (nar .byte ((((q0.toUInt64 >>> ((16 : Int32) &&& 0x3f).toInt64.toUInt64).toInt64).toInt32).toInt8.toInt32)), (nar .byte ((((q0.toUInt64 >>> ((24 : Int32) &&& 0x3f).toInt64.toUInt64).toInt64).toInt32).toInt8.toInt32)), (nar .byte ((((q0.toUInt64 >>> ((32 : Int32) &&& 0x3f).toInt64.toUInt64).toInt64).toInt32).toInt8.toInt32)), (nar .byte ((((q0.toUInt64 >>> ((40 : Int32) &&& 0x3f).toInt64.toUInt64).toInt64).toInt32).toInt8.toInt32)), (nar .byte ((((q0.toUInt64 >>> ((48 : Int32) &&& 0x3f).toInt64.toUInt64).toInt64).toInt32).toInt8.toInt32)), (nar .byte ((((q0.toUInt64 >>> ((56 : Int32) &&& 0x3f).toInt64.toUInt64).toInt64).toInt32).toInt8.toInt32))] h12 rfl V_b4) hown (hw _ (List.mem_of_getElem? (i := 5) rfl)) (hw _ (List.mem_of_getElem? (i := 6) rfl)) (hw _ (List.mem_of_getElem? (i := 7) rfl)) (hw _ (List.mem_of_getElem? (i := 8) rfl)) (by decide) e33 rfl (by rw [hml]; rfl) pd_1 rfl rfl (by show 2 * 0 + _ ≤ _; exact Nat.le_of_eq rfl) (hb hby at_185) (by decide) (by decide) (by decide) (by decide)
    replace X34 := own_flat X34
    refine own_st st34 ?_
    show own_Go p e below _ (T34.setTop (mkF m 188 #[.val (.long q0), .second, .val (.int p1), .val (.ref b1), .val (.ref b2), .val (.ref b4), .val (.int (0 : Int32)), .val (.int ((((((((own_c_0 q0 (0 : Int32)) + (own_c_0 q0 (1 : Int32))) + (own_c_0 q0 (2 : Int32))) + (own_c_0 q0 (3 : Int32))) + (own_c_0 q0 (4 : Int32))) + (own_c_0 q0 (5 : Int32))) + (own_c_0 q0 (6 : Int32))) + (own_c_0 q0 (7 : Int32))))] [(.int (own_cnt (0 : Int32) [(nar .byte ((q0.toInt32).toInt8.toInt32)), (nar .byte ((((q0.toUInt64 >>> ((8 : Int32) &&& 0x3f).toInt64.toUInt64).toInt64).toInt32).toInt8.toInt32)), (nar .byte ((((q0.toUInt64 >>> ((16 : Int32) &&& 0x3f).toInt64.toUInt64).toInt64).toInt32).toInt8.toInt32)), (nar .byte ((((q0.toUInt64 >>> ((24 : Int32) &&& 0x3f).toInt64.toUInt64).toInt64).toInt32).toInt8.toInt32)), (nar .byte ((((q0.toUInt64 >>> ((32 : Int32) &&& 0x3f).toInt64.toUInt64).toInt64).toInt32).toInt8.toInt32)), (nar .byte ((((q0.toUInt64 >>> ((40 : Int32) &&& 0x3f).toInt64.toUInt64).toInt64).toInt32).toInt8.toInt32)), (nar .byte ((((q0.toUInt64 >>> ((48 : Int32) &&& 0x3f).toInt64.toUInt64).toInt64).toInt32).toInt8.toInt32)), (nar .byte ((((q0.toUInt64 >>> ((56 : Int32) &&& 0x3f).toInt64.toUInt64).toInt64).toInt32).toInt8.toInt32))]))]))
    refine own_st (fun _ k => XS.iload X34.here hx rfl (hb hby at_188) rfl k) ?_
    show own_Go p e below _ (T34.setTop (mkF m 190 #[.val (.long q0), .second, .val (.int p1), .val (.ref b1), .val (.ref b2), .val (.ref b4), .val (.int (0 : Int32)), .val (.int ((((((((own_c_0 q0 (0 : Int32)) + (own_c_0 q0 (1 : Int32))) + (own_c_0 q0 (2 : Int32))) + (own_c_0 q0 (3 : Int32))) + (own_c_0 q0 (4 : Int32))) + (own_c_0 q0 (5 : Int32))) + (own_c_0 q0 (6 : Int32))) + (own_c_0 q0 (7 : Int32))))] [(.int ((((((((own_c_0 q0 (0 : Int32)) + (own_c_0 q0 (1 : Int32))) + (own_c_0 q0 (2 : Int32))) + (own_c_0 q0 (3 : Int32))) + (own_c_0 q0 (4 : Int32))) + (own_c_0 q0 (5 : Int32))) + (own_c_0 q0 (6 : Int32))) + (own_c_0 q0 (7 : Int32)))), (.int (own_cnt (0 : Int32) [(nar .byte ((q0.toInt32).toInt8.toInt32)), (nar .byte ((((q0.toUInt64 >>> ((8 : Int32) &&& 0x3f).toInt64.toUInt64).toInt64).toInt32).toInt8.toInt32)), (nar .byte ((((q0.toUInt64 >>> ((16 : Int32) &&& 0x3f).toInt64.toUInt64).toInt64).toInt32).toInt8.toInt32)), (nar .byte ((((q0.toUInt64 >>> ((24 : Int32) &&& 0x3f).toInt64.toUInt64).toInt64).toInt32).toInt8.toInt32)), (nar .byte ((((q0.toUInt64 >>> ((32 : Int32) &&& 0x3f).toInt64.toUInt64).toInt64).toInt32).toInt8.toInt32)), (nar .byte ((((q0.toUInt64 >>> ((40 : Int32) &&& 0x3f).toInt64.toUInt64).toInt64).toInt32).toInt8.toInt32)), (nar .byte ((((q0.toUInt64 >>> ((48 : Int32) &&& 0x3f).toInt64.toUInt64).toInt64).toInt32).toInt8.toInt32)), (nar .byte ((((q0.toUInt64 >>> ((56 : Int32) &&& 0x3f).toInt64.toUInt64).toInt64).toInt32).toInt8.toInt32))]))]))
    refine own_st (fun _ k => XS.icmpNo X34.here hx rfl (hb hby at_190) rfl ((own_i2 _ _ _).trans (own_nyes ((own_eight q0) : (own_cnt (0 : Int32) [(nar .byte ((q0.toInt32).toInt8.toInt32)), (nar .byte ((((q0.toUInt64 >>> ((8 : Int32) &&& 0x3f).toInt64.toUInt64).toInt64).toInt32).toInt8.toInt32)), (nar .byte ((((q0.toUInt64 >>> ((16 : Int32) &&& 0x3f).toInt64.toUInt64).toInt64).toInt32).toInt8.toInt32)), (nar .byte ((((q0.toUInt64 >>> ((24 : Int32) &&& 0x3f).toInt64.toUInt64).toInt64).toInt32).toInt8.toInt32)), (nar .byte ((((q0.toUInt64 >>> ((32 : Int32) &&& 0x3f).toInt64.toUInt64).toInt64).toInt32).toInt8.toInt32)), (nar .byte ((((q0.toUInt64 >>> ((40 : Int32) &&& 0x3f).toInt64.toUInt64).toInt64).toInt32).toInt8.toInt32)), (nar .byte ((((q0.toUInt64 >>> ((48 : Int32) &&& 0x3f).toInt64.toUInt64).toInt64).toInt32).toInt8.toInt32)), (nar .byte ((((q0.toUInt64 >>> ((56 : Int32) &&& 0x3f).toInt64.toUInt64).toInt64).toInt32).toInt8.toInt32))]) = ((((((((own_c_0 q0 (0 : Int32)) + (own_c_0 q0 (1 : Int32))) + (own_c_0 q0 (2 : Int32))) + (own_c_0 q0 (3 : Int32))) + (own_c_0 q0 (4 : Int32))) + (own_c_0 q0 (5 : Int32))) + (own_c_0 q0 (6 : Int32))) + (own_c_0 q0 (7 : Int32)))))) k) ?_
    show own_Go p e below _ (T34.setTop (mkF m 193 #[.val (.long q0), .second, .val (.int p1), .val (.ref b1), .val (.ref b2), .val (.ref b4), .val (.int (0 : Int32)), .val (.int ((((((((own_c_0 q0 (0 : Int32)) + (own_c_0 q0 (1 : Int32))) + (own_c_0 q0 (2 : Int32))) + (own_c_0 q0 (3 : Int32))) + (own_c_0 q0 (4 : Int32))) + (own_c_0 q0 (5 : Int32))) + (own_c_0 q0 (6 : Int32))) + (own_c_0 q0 (7 : Int32))))] []))
    refine own_st (fun _ k => XS.iconst X34.here hx rfl (hb hby at_193) k) ?_
    show own_Go p e below _ (T34.setTop (mkF m 194 #[.val (.long q0), .second, .val (.int p1), .val (.ref b1), .val (.ref b2), .val (.ref b4), .val (.int (0 : Int32)), .val (.int ((((((((own_c_0 q0 (0 : Int32)) + (own_c_0 q0 (1 : Int32))) + (own_c_0 q0 (2 : Int32))) + (own_c_0 q0 (3 : Int32))) + (own_c_0 q0 (4 : Int32))) + (own_c_0 q0 (5 : Int32))) + (own_c_0 q0 (6 : Int32))) + (own_c_0 q0 (7 : Int32))))] [(.int (1 : Int32))]))
    refine own_st (fun _ k => XS.goto X34.here hx rfl (pc0 := 194) (pc' := 198) rfl (hb hby at_194) (by decide) (by decide) k) ?_
    show own_Go p e below _ (T34.setTop (mkF m 198 #[.val (.long q0), .second, .val (.int p1), .val (.ref b1), .val (.ref b2), .val (.ref b4), .val (.int (0 : Int32)), .val (.int ((((((((own_c_0 q0 (0 : Int32)) + (own_c_0 q0 (1 : Int32))) + (own_c_0 q0 (2 : Int32))) + (own_c_0 q0 (3 : Int32))) + (own_c_0 q0 (4 : Int32))) + (own_c_0 q0 (5 : Int32))) + (own_c_0 q0 (6 : Int32))) + (own_c_0 q0 (7 : Int32))))] [(.int (1 : Int32))]))
    exact own_retZ X34 hx hlk hret rfl (hb hby at_198) ⟨rfl, N0⟩ (by decide) (by decide)
set_option maxRecDepth 65536 in
set_option maxHeartbeats 40000000 in
theorem comes_1 {Post : Tables → Env → Array Value → State → Outcome → State → Prop} (hpost : ∀ tb e args s v u, (limb_1_1.after args s (.returned v) u = true ∧ limb_1_2.after args s (.returned v) u = true ∧ True) → FrameEnd s (.returned v) u (Jvm.fieldLocs frame_1_writes args s ++ Jvm.arrayLocs frame_1_arrays args s ++ Jvm.staticLocs frame_1_statics s) 16 128 → Post tb e args s (.returned v) u) :
    ArmFor flags0 classFile x code maxLocals ret World_1 tables_1 room_1 Calls_1 rest_1 Pre_1 Post := by
  intro l hfl _ _ p e ha hc hk s m args below hf hA hF happ hP
  obtain ⟨hcalls, hrest, hpre⟩ := hP
  obtain ⟨-, -, -, hnamed, -, -, -, hat⟩ := (Spec.applies_iff hf).mp happ
  obtain ⟨hg, hn⟩ := and_e (Cond.before_iff.mp (show (Jvm.Cond.and given_1 narrow_1).before args s = true from hpre))
  obtain ⟨g1, g2⟩ := and_e hg
  obtain ⟨g3, g4⟩ := and_e g2
  obtain ⟨w0, w1, rfl⟩ : ∃ w0 w1 : Value, args = #[w0, w1] := by
    have hs : args.size = 2 := by simpa [Cond.value, given_1] using g1
    obtain ⟨L⟩ := args
    match L, hs with
    | [w0, w1], _ => exact ⟨w0, w1, rfl⟩
  have hw := fun d (hd : d ∈ tables_1) => atoms_spec (ws := Jvm.Cond.code x code maxLocals ret :: tables_1) hat d (List.mem_cons_of_mem _ hd)
  obtain ⟨i0, ei0⟩ := isL_v g3
  obtain rfl : w0 = (.long i0) := Option.some.inj ei0
  obtain ⟨i1, ei1⟩ := is_v g4
  obtain rfl : w1 = (.int i1) := Option.some.inj ei1
  obtain ⟨n, o, h1, h2, h3, _, L, rfl, ⟨rfl, N⟩, hq⟩ := rm0 l s _ hw i0 i1 s.heap s.heap.size (Nat.le_refl _) p e ha hc hk s m _ below hf ((Spec.applies_iff_loose hf).mp happ).1 ⟨rfl, State.Warmed39.refl s, rfl⟩ trivial
  refine ⟨n, _, h1, h2, h3, hpost _ _ _ _ _ _ ⟨Cond.after_iff.mpr rfl, Cond.after_iff.mpr (eq_i res_at (Term.int_eval (1)) rfl), trivial⟩ ⟨hq.1, hq.2.1, (hq.2.2.sift fun y hy => Or.inr (N y hy)).mono (by decide) (by decide)⟩⟩
theorem main_1_1 : Claimed_1_1 := comes_1 fun _ _ _ _ _ _ h hF => ⟨h.1, hF⟩
theorem main_1_2 : Claimed_1_2 := comes_1 fun _ _ _ _ _ _ h hF => ⟨h.2.1, hF⟩
end Jvm.Pilot.@@N@@
namespace Jvm.Pilot.@@N@@
open Jvm Jvm.ClassFile Sem Op Lib Jvm.Free Jvm.Stand Jvm.Pilot.@@N@@.Jvm.D
/-! MADE BY PROGRAM (witnessworld.py) out of the Statement's table words and the real class files: 9 classes; the members and pool entries that the words name. The judged class is class 1, her method 2. -/
namespace start1
open Jvm.ClassFile
def u (s : String) : CpInfo := .utf8 (stringToUtf16 s)
/-- a pool by its gaps: so many unusable entries, then the entry; so many at the end -/
def gap : Nat → List CpInfo → List CpInfo
  | 0, r => r
  | n + 1, r => .unusable :: gap n r
def poolList (es : List (Nat × CpInfo)) (last : Nat) : List CpInfo := es.foldr (fun e r => gap e.1 (e.2 :: r)) (gap last [])
def pool (es : List (Nat × CpInfo)) (last : Nat) : Array CpInfo := ⟨poolList es last⟩
def fileOf (pool : Array CpInfo) (this : Nat) (attrs : Array Attribute := #[]) (ms : Array MethodInfo := #[]) (fl : Nat := 33) (sup : Nat := 0) (ifs : Array Nat := #[]) (fds : Array FieldInfo := #[]) : ClassFile where
  minorVersion := 0
  majorVersion := 65
  constantPool := pool
  accessFlags := fl
  thisClass := this
  superClass := sup
  interfaces := ifs
  fields := fds
  methods := ms
  attributes := attrs
def plain (name : String) (sup : Option ClassId) : Class where
  name := name
  kind := .ordinary
  loader := none
  accessFlags := 33
  super := sup
  interfaces := #[]
  cf := none
  fields := #[]
  methods := #[]
  instanceTypes := #[]
  staticTypes := #[]
  resolved := #[]
  callSites := []
  init := .initialized
  statics := none
  mirror := none

def pool0 : Array CpInfo := pool [(5, u "<init>"), (0, u "()V"), (1, .class_ 10), (1, u "java/lang/Object")] 113

def k0m0 : Method := { name := "<init>", desc := "()V", sig := { parameters := [], returnType := none }, accessFlags := 1, code := none }
/-- java/lang/Object -/
def k0 : Class := { plain "java/lang/Object" none with
  accessFlags := 33
  interfaces := #[]
  cf := some (fileOf pool0 8 #[] #[{ accessFlags := 1, nameIndex := 5, descriptorIndex := 6, attributes := #[] }] 33 0 #[] #[])
  fields := #[]
  methods := #[k0m0]
  instanceTypes := #[]
  staticTypes := #[]
  resolved := Array.replicate 124 none
  statics := none }

def pool1 : Array CpInfo := pool [(2, .class_ 4), (1, u "java/lang/Object"), (0, u "<init>"), (0, u "()V"), (0, .methodref 8 9), (0, .class_ 10), (0, .nameAndType 11 12), (0, u "com/example/stratum_codecs/stratumcodecs/OrdinalListsCountPinLaw"), (0, u "clear"), (0, u "(JI)I"), (0, .methodref 14 15), (0, .class_ 16), (0, .nameAndType 17 18), (0, u "com/example/stratum_codecs/stratumcodecs/OrdinalLists"), (0, u "count"), (0, u "([B)I"), (3, u "law"), (0, u "(JI)Z")] 4

def k1m0 : Method := { name := "<init>", desc := "()V", sig := { parameters := [], returnType := none }, accessFlags := 2, code := none }
def k1c1 : Code := { maxStack := 4, maxLocals := 3, code := method_2_code, exceptionTable := #[], attributes := #[] }
def k1m1 : Method := { name := "clear", desc := "(JI)I", sig := { parameters := [.long, .int], returnType := some .int }, accessFlags := 10, code := some k1c1 }
def k1c2 : Code := { maxStack := 5, maxLocals := 8, code := code, exceptionTable := #[], attributes := #[] }
def k1m2 : Method := { name := "law", desc := "(JI)Z", sig := { parameters := [.long, .int], returnType := some .boolean }, accessFlags := 9, code := some k1c2 }
/-- com/example/stratum_codecs/stratumcodecs/OrdinalListsCountPinLaw -/
def k1 : Class := { plain "com/example/stratum_codecs/stratumcodecs/OrdinalListsCountPinLaw" (some 0) with
  accessFlags := 49
  interfaces := #[]
  cf := some (fileOf pool1 8 #[] #[{ accessFlags := 2, nameIndex := 5, descriptorIndex := 6, attributes := #[] }, { accessFlags := 10, nameIndex := 11, descriptorIndex := 12, attributes := #[] }, { accessFlags := 9, nameIndex := 22, descriptorIndex := 23, attributes := #[] }] 49 2 #[] #[])
  fields := #[]
  methods := #[k1m0, k1m1, k1m2]
  instanceTypes := #[]
  staticTypes := #[]
  resolved := Array.replicate 28 none
  statics := none }

def pool2 : Array CpInfo := pool [(4, .class_ 6), (1, u "java/lang/Object"), (0, u "<init>"), (0, u "()V"), (21, .class_ 32), (1, u "com/example/stratum_codecs/stratumcodecs/OrdinalLists"), (0, u "count"), (0, u "([B)I"), (13, .class_ 50), (1, u "com/example/stratum_codecs/stratumcodecs/OrdinalLists$Words"), (74, u "WORDS"), (0, u "Ljava/lang/invoke/VarHandle;"), (20, u "ANY_ORDINAL"), (0, u "J"), (1, u "MORE_BITS")] 50

def k2m0 : Method := { name := "<init>", desc := "()V", sig := { parameters := [], returnType := none }, accessFlags := 2, code := none }
def k2c1 : Code := { maxStack := 2, maxLocals := 6, code := prog_85_method_3_code, exceptionTable := #[], attributes := #[] }
def k2m1 : Method := { name := "count", desc := "([B)I", sig := { parameters := [(.array .byte)], returnType := some .int }, accessFlags := 8, code := some k2c1 }
/-- com/example/stratum_codecs/stratumcodecs/OrdinalLists -/
def k2 : Class := { plain "com/example/stratum_codecs/stratumcodecs/OrdinalLists" (some 0) with
  accessFlags := 48
  interfaces := #[]
  cf := some (fileOf pool2 30 #[.nestMembers #[48]] #[{ accessFlags := 2, nameIndex := 7, descriptorIndex := 8, attributes := #[] }, { accessFlags := 8, nameIndex := 33, descriptorIndex := 34, attributes := #[] }] 48 4 #[] #[{ accessFlags := 24, nameIndex := 147, descriptorIndex := 148, attributes := #[] }, { accessFlags := 26, nameIndex := 150, descriptorIndex := 148, attributes := #[] }, { accessFlags := 26, nameIndex := 125, descriptorIndex := 126, attributes := #[] }])
  fields := #[{ name := "ANY_ORDINAL", type := .long, accessFlags := 24, slot := 0, constantValue := 0 }, { name := "MORE_BITS", type := .long, accessFlags := 26, slot := 1, constantValue := 0 }, { name := "WORDS", type := (.object "java/lang/invoke/VarHandle"), accessFlags := 26, slot := 2, constantValue := 0 }]
  methods := #[k2m0, k2m1]
  instanceTypes := #[]
  staticTypes := #[.long, .long, (.object "java/lang/invoke/VarHandle")]
  resolved := Array.replicate 201 none
  statics := none }

def pool3 : Array CpInfo := pool [(1, u "java/lang/Cloneable"), (0, .class_ 1), (0, u "java/lang/Object"), (0, .class_ 3)] 3

/-- java/lang/Cloneable -/
def k3 : Class := { plain "java/lang/Cloneable" (some 0) with
  accessFlags := 1537
  interfaces := #[]
  cf := some (fileOf pool3 2 #[] #[] 1537 4 #[] #[])
  fields := #[]
  methods := #[]
  instanceTypes := #[]
  staticTypes := #[]
  resolved := Array.replicate 8 none
  statics := none }

def pool4 : Array CpInfo := pool [(1, u "java/io/Serializable"), (0, .class_ 1), (0, u "java/lang/Object"), (0, .class_ 3)] 3

/-- java/io/Serializable -/
def k4 : Class := { plain "java/io/Serializable" (some 0) with
  accessFlags := 1537
  interfaces := #[]
  cf := some (fileOf pool4 2 #[] #[] 1537 4 #[] #[])
  fields := #[]
  methods := #[]
  instanceTypes := #[]
  staticTypes := #[]
  resolved := Array.replicate 8 none
  statics := none }

/-- the primitive byte -/
def k5 : Class := { plain "byte" none with kind := .primitive 'B', accessFlags := 0x411 }
/-- [B -/
def k6 : Class := { plain "[B" (some 0) with kind := .array 5 .byte, interfaces := #[3, 4], accessFlags := 1041 }

/-- the primitive int -/
def k7 : Class := { plain "int" none with kind := .primitive 'I', accessFlags := 0x411 }
/-- [I -/
def k8 : Class := { plain "[I" (some 0) with kind := .array 7 .int, interfaces := #[3, 4], accessFlags := 1041 }

def heap : Heap := #[]
def classes : Array Class := #[k0, k1, k2, k3, k4, k5, k6, k7, k8]
def interned : List (Array UInt16 × Addr) := []
def slotsUsed : Nat := 0
def theMethod : MethodId := ⟨1, 2⟩
def args0 : Array Value := #[.long 5, .int 3]
def aboutOver (below : List Frame) : State where
  vm := { classes := classes, interned := interned.toArray }
  heap := heap
  slotsUsed := slotsUsed
  threads := #[{ frames := .invoking theMethod args0 :: below }]
def below0 : List Frame := [.native { method := ⟨0, 0⟩, args := #[] }]
def about1 : State := aboutOver below0
def p0 : Program := .bare "" "" ""
def e0 : Env := launch0.env 0 0 0
theorem w_frames : about1.frames = Frame.invoking theMethod args0 :: below0 := rfl
set_option maxRecDepth 65536 in
theorem w_args : argsFit about1.vm theMethod args0 = true := by decide +kernel
set_option maxRecDepth 65536 in
theorem w_heap : heapFits about1 = true := by decide +kernel
set_option maxRecDepth 65536 in
theorem w_runnable : about1.curStatus? = some .runnable := by decide +kernel
set_option maxRecDepth 65536 in
theorem w_alone : about1.alone = true := by decide +kernel
set_option maxRecDepth 65536 in
theorem w_named : about1.methodNamed? x = some theMethod := by decide +kernel
set_option maxRecDepth 65536 in
theorem w_hears : about1.hears theMethod below0 = true := by decide +kernel
set_option maxRecDepth 65536 in
theorem w_ripe : about1.ripe theMethod args0 below0 = true := by decide +kernel
theorem w_running : about1.status = .running := rfl
set_option maxRecDepth 65536 in
theorem w_room : about1.hasRoom e0.platform room_1 = true :=
  launch0.hasRoom_least _ room_1 (by decide +kernel) (by decide +kernel) (by decide +kernel) (by decide +kernel) (by decide +kernel) (by decide +kernel)
theorem allAtoms_all (ts : List Jvm.Cond) (a : Array Jvm.Value) (st : Jvm.State) : (allAtoms ts).before a st = ts.all (fun c => c.before a st) := by
  induction ts with
  | nil => rfl
  | cons c t ih =>
    show (Jvm.Cond.and c (allAtoms t)).before a st = _
    rw [Jvm.Cond.before_and, ih, List.all_cons]
def words1 : List Jvm.Cond := Jvm.Cond.code x code maxLocals ret :: tables_1
/-- a 'code' word, met by the world's own term for the bytes: nothing is compared byte by byte -/
theorem code_word {y : MethodName} {bytes : ByteArray} {mx : Nat} {rt : Option FieldType} {a : Array Value} {s : State} {m : MethodId} {meth : Method} {c : Code} (h1 : s.methodNamed? y = some m) (h2 : s.vm.method? m = some meth) (h3 : meth.code = some c) (h4 : c.code = bytes)
    (h5 : (c.maxLocals == mx && c.exceptionTable.isEmpty && decide (c.maxStack ≤ mostOperands) && decide (meth.sig.returnType = rt) && !meth.locks && decide (parseMethodDescriptor y.desc = some meth.sig)) = true) : (Jvm.Cond.code y bytes mx rt).before a s = true := by
  simp only [Bool.and_eq_true, beq_iff_eq, Bool.not_eq_true', decide_eq_true_eq] at h5
  obtain ⟨⟨⟨⟨⟨g1, g2⟩, g3⟩, g4⟩, g5⟩, g6⟩ := h5
  simp [Cond.before, Cond.holds, Cond.value, h1, h2, h3, h4, g1, g2, g3, g4, g5, g6]
def isCode : Jvm.Cond → Bool
  | .code _ _ _ _ => true
  | _ => false
theorem all_split {L : List Jvm.Cond} {P : Jvm.Cond → Bool} (h1 : L.all (fun c => isCode c || P c) = true) (h2 : ∀ c ∈ L.filter isCode, P c = true) : L.all P = true := by
  refine List.all_eq_true.mpr fun c hc => ?_
  have h := List.all_eq_true.mp h1 c hc
  rcases Bool.eq_false_or_eq_true (isCode c) with hi | hi
  · exact h2 c (List.mem_filter.mpr ⟨hc, hi⟩)
  · simpa [hi] using h
set_option maxRecDepth 65536 in
theorem w_c0 : (Jvm.Cond.code x code maxLocals ret).before args0 about1 = true := code_word (m := ⟨1, 2⟩) (meth := k1m2) (c := k1c2) (by decide +kernel) rfl rfl rfl (by decide +kernel)
set_option maxRecDepth 65536 in
theorem w_c1 : (Jvm.Cond.code ({ cls := "com/example/stratum_codecs/stratumcodecs/OrdinalListsCountPinLaw", name := "clear", desc := "(JI)I" } : Jvm.MethodName) method_2_code (3 : Nat) (Option.some Jvm.ClassFile.FieldType.int)).before args0 about1 = true := code_word (m := ⟨1, 1⟩) (meth := k1m1) (c := k1c1) (by decide +kernel) rfl rfl rfl (by decide +kernel)
set_option maxRecDepth 65536 in
theorem w_c2 : (Jvm.Cond.code ({ cls := "com/example/stratum_codecs/stratumcodecs/OrdinalLists", name := "count", desc := "([B)I" } : Jvm.MethodName) prog_85_method_3_code (6 : Nat) (Option.some Jvm.ClassFile.FieldType.int)).before args0 about1 = true := code_word (m := ⟨2, 1⟩) (meth := k2m1) (c := k2c1) (by decide +kernel) rfl rfl rfl (by decide +kernel)
def codes1 : List Jvm.Cond := [Jvm.Cond.code x code maxLocals ret, Jvm.Cond.code ({ cls := "com/example/stratum_codecs/stratumcodecs/OrdinalListsCountPinLaw", name := "clear", desc := "(JI)I" } : Jvm.MethodName) method_2_code (3 : Nat) (Option.some Jvm.ClassFile.FieldType.int), Jvm.Cond.code ({ cls := "com/example/stratum_codecs/stratumcodecs/OrdinalLists", name := "count", desc := "([B)I" } : Jvm.MethodName) prog_85_method_3_code (6 : Nat) (Option.some Jvm.ClassFile.FieldType.int)]
set_option maxRecDepth 65536 in
theorem codes_eq : words1.filter isCode = codes1 := rfl
theorem w_codes : ∀ c ∈ words1.filter isCode, c.before args0 about1 = true := by
  rw [codes_eq]
  intro c hc
  simp only [codes1, List.mem_cons, List.not_mem_nil, or_false] at hc
  rcases hc with rfl | rfl | rfl
  · exact w_c0
  · exact w_c1
  · exact w_c2
set_option maxRecDepth 65536 in
theorem w_t1 : words1.all (fun c => isCode c || c.before args0 about1) = true := by decide +kernel
theorem w_tables : (allAtoms (Jvm.Cond.code x code maxLocals ret :: tables_1)).before args0 about1 = true := by
  rw [allAtoms_all]
  show words1.all (fun c => c.before args0 about1) = true
  refine all_split ?_ w_codes
  rw [w_t1]
set_option maxRecDepth 65536 in
theorem w_case : (Jvm.Cond.and given_1 narrow_1).before args0 about1 = true := by decide +kernel
theorem w_applies : (headSpec (Jvm.Cond.code x code maxLocals ret :: tables_1) room_1).applies x e0.platform about1 = true :=
  (Spec.applies_iff w_frames).mpr ⟨w_running, w_runnable, w_alone, w_named, w_hears, w_ripe, w_room, w_tables⟩
theorem atStart : AtStart classFile x code maxLocals ret World_1 tables_1 room_1 Calls_1 rest_1 Pre_1 launch0 p0 e0 about1 theMethod args0 below0 :=
  ⟨lists_1, trivial, launch0.admits_env _ _ _, launch0.least_env, fairChoices_fair.cas, fairChoices_fair.clock, w_frames, w_args, w_heap, w_applies, trivial, trivial, w_case⟩
end start1
theorem witness_1 : WitnessClaimed_1 := ⟨start1.p0, start1.e0, start1.about1, start1.theMethod, start1.args0, start1.below0, start1.atStart⟩
end Jvm.Pilot.@@N@@
