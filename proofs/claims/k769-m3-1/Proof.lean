import JvmDerived
import JvmDerived.Pilot.@@N@@Statement
import JvmDerived.Pilot.@@N@@Code
set_option linter.unusedVariables false
set_option linter.unusedSimpArgs false
namespace Jvm.Pilot.@@N@@
open Jvm Jvm.ClassFile Sem Op Lib Jvm.Free Jvm.Stand Jvm.LawKit Jvm.RoadKit Bundle Jvm.Pilot.@@N@@.Jvm.D
section OwnKit
variable {p : Program} {l : Launch} {e : Env} {R : Room} {s : State} {m : MethodId} {args : Array Value} {below : List Frame} {meth : Method} {c : Code} {T : State} {locs : List Loc} {cells slots : Nat} {Z : State} {a0 : Array Value} {h : Heap}
/-- from the state U on the run comes to an end of which Q holds -/
def own_Go (p : Program) (e : Env) (below : List Frame) (Q : Outcome → State → Prop) (U : State) : Prop :=
  ∃ u o, Steps p.tables e below U u ∧ u.status = .running ∧ Ended u below o ∧ Q o u
theorem own_st {Q : Outcome → State → Prop} {U V : State} (k : ∀ t, Steps p.tables e below V t → Steps p.tables e below U t) (q : own_Go p e below Q V) : own_Go p e below Q U := by
  obtain ⟨u, o, h1, h2⟩ := q
  exact ⟨u, o, k _ h1, h2⟩
theorem own_tr {Q : Outcome → State → Prop} {U V : State} (k : Steps p.tables e below U V) (q : own_Go p e below Q V) : own_Go p e below Q U := by
  obtain ⟨u, o, h1, h2⟩ := q
  exact ⟨u, o, k.trans h1, h2⟩
/-- what a body leaves, said of its end -/
abbrev own_Post (s : State) (Qc : Option Value → Heap → List Loc → Prop) (k n : Nat) : Outcome → State → Prop := fun o u => ∃ v L, o = .returned v ∧ Qc v u.heap L ∧ FrameEnd s o u L k n
theorem own_body {y : MethodName} {bytes : ByteArray} {maxL : Nat} {ret : Option FieldType} {ws : List Jvm.Cond} {rm : Room} {as' : Array Value} {h0 : Heap} {Qc : Option Value → Heap → List Loc → Prop} {k n : Nat} (hpl : plainFor y = true)
    (body : ∀ (p : Program) (e : Env) (s : State) (m : MethodId) (below : List Frame) (meth : Method) (c : Code) (s₁ : State), Stand p l e rm s m as' below meth c s₁ [] 0 0 → p.tables.exec = Jvm.exec → Z.Warmed39 s.vm → c.code = bytes → c.maxLocals = maxL → s.vm.findClass y.cls = some m.cls →
      meth.sig.returnType = ret → meth.locks = false → meth.name = y.name → s₁.heap = h0 → own_Go p e below (own_Post s Qc k n) (s₁.setTop (entryFrame m as' maxL))) :
    MetFree l y (head1 (Jvm.Cond.code y bytes maxL ret :: ws) rm) (fun a U => a = as' ∧ Z.Warmed39 U.vm ∧ U.heap = h0) (fun _ _ _ _ _ => True) (fun _ U o U' => own_Post U Qc k n o U') := by
  refine MetFree.of_bodySF hpl hisR ?_
  intro p e s m args below meth c s₁ Bd hml0 hP hK
  obtain ⟨rfl, hZ, hh⟩ := hP
  exact body p e s m below meth c s₁ (Stand.of_body Bd) Bd.exec hZ Bd.bytes hml0 (findClass_of_methodNamed Bd.named) Bd.returns Bd.notSynchronized (name_of_methodNamed Bd.named Bd.method).1 (by rw [← hh, Bd.state]; rfl)
theorem own_end {Qc : Option Value → Heap → List Loc → Prop} {k n : Nat} {v : Option Value} (X : Stand p l e R s m args below meth c T locs cells slots) (hlk : meth.locks = false) (hv : meth.sig.returnType = none → v = none) {g : JFrame}
    (hst : ∀ fs, (∀ (f : JFrame) (acts : List Action), f.method = m → f.locked = none → f.entered = [] → (doReturn e (T.setTop f) acts v).1 = T.setFrames fs) → Steps p.tables e below (T.setTop g) (T.setFrames fs))
    (hQ : Qc v T.heap locs) (hk : cells ≤ k) (hn : slots ≤ n) : own_Go p e below (own_Post s Qc k n) (T.setTop g) := by
  obtain ⟨fs, hr, hrun, hended, hW, hsame⟩ := X.leave (v := v) hv hlk
  exact ⟨_, _, hst fs hr, hrun, hended, _, _, rfl, hQ, ⟨_, rfl⟩, hW, hsame.mono hk hn⟩
theorem own_retI {Qc : Option Value → Heap → List Loc → Prop} {k n : Nat} (X : Stand p l e R s m args below meth c T locs cells slots) (hx : p.tables.exec = Jvm.exec) (hlk : meth.locks = false) (hret : meth.sig.returnType = some .int) {pc : Nat} {Ls : Array Slot} {z : Int32} {rest : List Value}
    (hd : decode c.code pc = .ok (.ireturn, 1)) (hQ : Qc (some (.int z)) T.heap locs) (hk : cells ≤ k) (hn : slots ≤ n) : own_Go p e below (own_Post s Qc k n) (T.setTop (mkF m pc Ls (.int z :: rest))) :=
  own_end X hlk (fun q => by rw [hret] at q; cases q) (fun fs hr => retOut X hx hret (w := .int z) (t := .int) rfl (Or.inl ⟨rfl, Or.inl rfl, z, rfl⟩) hd hr) hQ hk hn
theorem own_retZ {Qc : Option Value → Heap → List Loc → Prop} {k n : Nat} (X : Stand p l e R s m args below meth c T locs cells slots) (hx : p.tables.exec = Jvm.exec) (hlk : meth.locks = false) (hret : meth.sig.returnType = some .boolean) {pc : Nat} {Ls : Array Slot} {z : Int32} {rest : List Value}
    (hz : narrow .boolean (.int z) = .int z) (hd : decode c.code pc = .ok (.ireturn, 1)) (hQ : Qc (some (.int z)) T.heap locs) (hk : cells ≤ k) (hn : slots ≤ n) : own_Go p e below (own_Post s Qc k n) (T.setTop (mkF m pc Ls (.int z :: rest))) :=
  own_end X hlk (fun q => by rw [hret] at q; cases q) (fun fs hr => retOut X hx hret (w := .int z) (t := .boolean) hz (Or.inl ⟨rfl, Or.inr (Or.inl rfl), z, rfl⟩) hd hr) hQ hk hn
theorem own_retJ {Qc : Option Value → Heap → List Loc → Prop} {k n : Nat} (X : Stand p l e R s m args below meth c T locs cells slots) (hx : p.tables.exec = Jvm.exec) (hlk : meth.locks = false) (hret : meth.sig.returnType = some .long) {pc : Nat} {Ls : Array Slot} {z : Int64} {rest : List Value}
    (hd : decode c.code pc = .ok (.lreturn, 1)) (hQ : Qc (some (.long z)) T.heap locs) (hk : cells ≤ k) (hn : slots ≤ n) : own_Go p e below (own_Post s Qc k n) (T.setTop (mkF m pc Ls (.long z :: rest))) :=
  own_end X hlk (fun q => by rw [hret] at q; cases q) (fun fs hr => retOut X hx hret (w := .long z) (t := .long) rfl (Or.inr (Or.inl ⟨rfl, rfl, z, rfl⟩)) hd hr) hQ hk hn
theorem own_retA {Qc : Option Value → Heap → List Loc → Prop} {k n : Nat} (X : Stand p l e R s m args below meth c T locs cells slots) (hx : p.tables.exec = Jvm.exec) (hlk : meth.locks = false) {t : FieldType} (hret : meth.sig.returnType = some t) (ht : t.isReference = true) {pc : Nat} {Ls : Array Slot} {w : Value} (hw : w.isRef = true)
    (hd : decode c.code pc = .ok (.areturn, 1)) (hQ : Qc (some w) T.heap locs) (hk : cells ≤ k) (hn : slots ≤ n) : own_Go p e below (own_Post s Qc k n) (T.setTop (mkF m pc Ls [w])) :=
  own_end X hlk (fun q => by rw [hret] at q; cases q) (fun fs hr => X.areturnOut hx hw hret ht hd hr) hQ hk hn
theorem own_retV {Qc : Option Value → Heap → List Loc → Prop} {k n : Nat} (X : Stand p l e R s m args below meth c T locs cells slots) (hx : p.tables.exec = Jvm.exec) (hlk : meth.locks = false) (hret : meth.sig.returnType = none) {pc : Nat} {Ls : Array Slot}
    (hd : decode c.code pc = .ok (.return_, 1)) (hQ : Qc none T.heap locs) (hk : cells ≤ k) (hn : slots ≤ n) : own_Go p e below (own_Post s Qc k n) (T.setTop (mkF m pc Ls [])) :=
  own_end X hlk (fun _ => rfl) (fun fs hr => X.returnOut hx hret hd hr) hQ hk hn
/-- a callee's contract, as own_body proves it and the three calls below spend it -/
abbrev own_Met (l : Launch) (Z : State) (y : MethodName) (bytes : ByteArray) (maxL : Nat) (ret : Option FieldType) (rm : Room) (as' : Array Value) (h0 : Heap) (Qc : Option Value → Heap → List Loc → Prop) : Prop :=
  MetFree l y (head1 [Jvm.Cond.code y bytes maxL ret] rm) (fun a U => a = as' ∧ Z.Warmed39 U.vm ∧ U.heap = h0) (fun _ _ _ _ _ => True) (fun _ U o U' => own_Post U Qc rm.cells rm.slots o U')
theorem own_callS (X : Stand p l e R s m args below meth c T locs cells slots) (hx : p.tables.exec = Jvm.exec) (hZ : Z.Warmed39 s.vm) {own : String} {index : Nat} {y : MethodName} {bytes : ByteArray} {maxL : Nat} {ret : Option FieldType} {rm : Room} {Qc : Option Value → Heap → List Loc → Prop} {argsL rest : List Value} {ps : List FieldType} {W : Nat} {g : JFrame}
    (hM : own_Met l Z y bytes maxL ret rm argsL.toArray h Qc) (hown : s.vm.findClass own = some m.cls) (w1 : (Jvm.Cond.methodLink own index y).before a0 Z = true) (w2 : (Jvm.Cond.static y).before a0 Z = true) (w3 : (Jvm.Cond.initialized y.cls).before a0 Z = true) (w4 : (Jvm.Cond.code y bytes maxL ret).before a0 Z = true)
    (hy : y.cls ≠ "java/lang/invoke/MethodHandle" ∧ y.cls ≠ "java/lang/invoke/VarHandle") (eT : T.heap = h) (hg : g.method = m) (hsize : g.locals.size = c.maxLocals) (hdesc : parseMethodDescriptor y.desc = some ⟨ps, ret⟩) (hlen : argsL.length = ps.length) (hstack : g.stack = argsL.reverse ++ rest)
    (hW : 2 * g.monitorRoom + (rest.map fun v => v.category).sum ≤ W) (hdg : decode c.code g.pc = .ok (.invokestatic index, 3)) (hf : rm.frames + 1 ≤ R.frames) (hl : W + (maxL + 11) + rm.locals ≤ R.locals) (hc : cells + rm.cells ≤ R.cells) (hs : slots + rm.slots ≤ R.slots) :
    ∃ v T' L, Stand p l e R s m args below meth c T' (locs ++ L) (cells + rm.cells) (slots + rm.slots) ∧ Qc v T'.heap L ∧ ∀ target, Steps p.tables e below (T'.setTop { g with pc := g.pc + 3, stack := v.toList ++ rest }) target → Steps p.tables e below (T.setTop g) target := by
  obtain ⟨v, _, ⟨T1, L1, k1, n1⟩, -, X1, ⟨L, hQ, q1, q2, q3⟩, st⟩ := Jvm.LawKit.callS X hx (y := y) hown (mvT hZ w1) (mvT hZ w2) (mvT hZ w3) (mvT hZ w4) hy (backOf (W := W) hM hZ w4 w3 hf hl) (g := g) hg hsize (lenOf hdesc hlen) hstack hW hdg (fun _ _ => ⟨rfl, eT, hc, hs⟩)
  dsimp only [Pt.U, Pt.locs, Pt.cells, Pt.slots] at X1 q1 q2 q3 st hQ
  subst q1 q2 q3
  exact ⟨v, T1, L, X1, hQ, st⟩
theorem own_callI (X : Stand p l e R s m args below meth c T locs cells slots) (hx : p.tables.exec = Jvm.exec) (hZ : Z.Warmed39 s.vm) {own : String} {index : Nat} {y : MethodName} {bytes : ByteArray} {maxL : Nat} {rm : Room} {Qc : Option Value → Heap → List Loc → Prop} {a : Addr} {argsL rest : List Value} {ps : List FieldType} {W : Nat} {g : JFrame}
    (hM : own_Met l Z y bytes maxL none rm (.ref a :: argsL).toArray h Qc) (hn : y.name = "<init>") (hown : s.vm.findClass own = some m.cls) (w1 : (Jvm.Cond.methodLink own index y).before a0 Z = true) (w2 : (Jvm.Cond.instanceMethod y).before a0 Z = true) (w3 : (Jvm.Cond.initialized y.cls).before a0 Z = true) (w4 : (Jvm.Cond.code y bytes maxL none).before a0 Z = true)
    (hy : y.cls ≠ "java/lang/invoke/MethodHandle" ∧ y.cls ≠ "java/lang/invoke/VarHandle") (eT : T.heap = h) (hg : g.method = m) (hsize : g.locals.size = c.maxLocals) (hdesc : parseMethodDescriptor y.desc = some ⟨ps, none⟩) (hlen : argsL.length = ps.length) (hstack : g.stack = argsL.reverse ++ .ref a :: rest)
    (hW : 2 * g.monitorRoom + (rest.map fun v => v.category).sum ≤ W) (hdg : decode c.code g.pc = .ok (.invokespecial index, 3)) (hf : rm.frames + 1 ≤ R.frames) (hl : W + (maxL + 11) + rm.locals ≤ R.locals) (hc : cells + rm.cells ≤ R.cells) (hs : slots + rm.slots ≤ R.slots) :
    ∃ v T' L, Stand p l e R s m args below meth c T' (locs ++ L) (cells + rm.cells) (slots + rm.slots) ∧ Qc v T'.heap L ∧ ∀ target, Steps p.tables e below (T'.setTop { g with pc := g.pc + 3, stack := v.toList ++ rest }) target → Steps p.tables e below (T.setTop g) target := by
  obtain ⟨v, _, ⟨T1, L1, k1, n1⟩, -, X1, ⟨L, hQ, q1, q2, q3⟩, st⟩ := X.specialBack hx (y := y) hn hown (mvT hZ w1) (mvT hZ w2) (mvT hZ w4) hy (backOf (W := W) hM hZ w4 w3 hf hl) (g := g) hg hsize (Steps.refl _) (a := a) (lenOf hdesc hlen) hstack hW hdg (fun _ _ => ⟨rfl, eT, hc, hs⟩)
  dsimp only [Pt.U, Pt.locs, Pt.cells, Pt.slots] at X1 q1 q2 q3 st hQ
  subst q1 q2 q3
  exact ⟨v, T1, L, X1, hQ, fun _ q => st.trans q⟩
theorem own_callV (X : Stand p l e R s m args below meth c T locs cells slots) (hx : p.tables.exec = Jvm.exec) (hZ : Z.Warmed39 s.vm) {own : String} {index : Nat} {y : MethodName} {bytes : ByteArray} {maxL : Nat} {ret : Option FieldType} {rm : Room} {Qc : Option Value → Heap → List Loc → Prop} {a : Addr} {argsL rest : List Value} {ps : List FieldType} {W : Nat} {g : JFrame}
    (hM : own_Met l Z y bytes maxL ret rm (.ref a :: argsL).toArray h Qc) (E : Exa Z h a y.cls) (hown : s.vm.findClass own = some m.cls) (w1 : (Jvm.Cond.methodLink own index y).before a0 Z = true) (w2 : (Jvm.Cond.declares y).before a0 Z = true) (w3 : (Jvm.Cond.selects y.cls y y).before a0 Z = true) (w4 : (Jvm.Cond.instanceMethod y).before a0 Z = true) (w5 : (Jvm.Cond.initialized y.cls).before a0 Z = true) (w6 : (Jvm.Cond.code y bytes maxL ret).before a0 Z = true)
    (hy : y.cls ≠ "java/lang/invoke/MethodHandle" ∧ y.cls ≠ "java/lang/invoke/VarHandle") (eT : T.heap = h) (hg : g.method = m) (hsize : g.locals.size = c.maxLocals) (hdesc : parseMethodDescriptor y.desc = some ⟨ps, ret⟩) (hlen : argsL.length = ps.length) (hstack : g.stack = argsL.reverse ++ .ref a :: rest)
    (hW : 2 * g.monitorRoom + (rest.map fun v => v.category).sum ≤ W) (hdg : decode c.code g.pc = .ok (.invokevirtual index, 3)) (hf : rm.frames + 1 ≤ R.frames) (hl : W + (maxL + 11) + rm.locals ≤ R.locals) (hc : cells + rm.cells ≤ R.cells) (hs : slots + rm.slots ≤ R.slots) :
    ∃ v T' L, Stand p l e R s m args below meth c T' (locs ++ L) (cells + rm.cells) (slots + rm.slots) ∧ Qc v T'.heap L ∧ ∀ target, Steps p.tables e below (T'.setTop { g with pc := g.pc + 3, stack := v.toList ++ rest }) target → Steps p.tables e below (T.setTop g) target := by
  obtain ⟨cq, kq, qa, qb, qc⟩ := isOf hZ eT E
  obtain ⟨v, _, ⟨T1, L1, k1, n1⟩, -, X1, ⟨L, hQ, q1, q2, q3⟩, st⟩ := X.virtualBack hx (y := y) (z := y) hown (mvT hZ w1) (mvT hZ w2) (notFace_of_selects (args := #[]) (mvT hZ w3)) (mvT hZ w3) (mvT hZ w4) hy (backOf (W := W) hM hZ w6 w5 hf hl) qa qc (g := g) hg hsize (Steps.refl _) (lenOf hdesc hlen) hstack hW hdg (fun _ _ => ⟨rfl, eT, hc, hs⟩)
  dsimp only [Pt.U, Pt.locs, Pt.cells, Pt.slots] at X1 q1 q2 q3 st hQ
  subst q1 q2 q3
  exact ⟨v, T1, L, X1, hQ, fun _ q => st.trans q⟩
/-- what a body that writes nothing leaves -/
abbrev own_P (v : Option Value) (h : Heap) : Option Value → Heap → List Loc → Prop := fun w h' L => w = v ∧ L = [] ∧ h' = h
theorem own_flat (X : Stand p l e R s m args below meth c T (locs ++ []) (cells + 0) (slots + 0)) : Stand p l e R s m args below meth c T locs cells slots := by
  rw [List.append_nil] at X
  exact X
def own_c32 : ClassFile.Cond → Int32 → Int32 → Bool
  | .lt, x, y => decide (x < y)
  | .ge, x, y => !decide (x < y)
  | .gt, x, y => decide (y < x)
  | .le, x, y => !decide (y < x)
  | .eq, x, y => decide (x = y)
  | .ne, x, y => !decide (x = y)
def own_c64 : ClassFile.Cond → Int64 → Int64 → Bool
  | .lt, x, y => decide (x < y)
  | .ge, x, y => !decide (x < y)
  | .gt, x, y => decide (y < x)
  | .le, x, y => !decide (y < x)
  | .eq, x, y => decide (x = y)
  | .ne, x, y => !decide (x = y)
theorem own_yes {P : Prop} [Decidable P] (q : P) : decide P = true := decide_eq_true q
theorem own_no {P : Prop} [Decidable P] (q : ¬ P) : decide P = false := decide_eq_false q
theorem own_nyes {P : Prop} [Decidable P] (q : P) : (!decide P) = false := by rw [decide_eq_true q]; rfl
theorem own_nno {P : Prop} [Decidable P] (q : ¬ P) : (!decide P) = true := by rw [decide_eq_false q]; rfl
theorem own_i2 (cd : ClassFile.Cond) (x y : Int32) : if_icmp.holds cd x y = own_c32 cd x y := by
  cases cd
  case lt => by_cases q : x < y; · exact (tlt q).1.trans (own_yes q).symm
             · exact (flt q).1.trans (own_no q).symm
  case ge => by_cases q : x < y; · exact (tlt q).2.1.trans (own_nyes q).symm
             · exact (flt q).2.1.trans (own_nno q).symm
  case gt => by_cases q : y < x; · exact (tlt q).2.2.1.trans (own_yes q).symm
             · exact (flt q).2.2.1.trans (own_no q).symm
  case le => by_cases q : y < x; · exact (tlt q).2.2.2.trans (own_nyes q).symm
             · exact (flt q).2.2.2.trans (own_nno q).symm
  case eq => by_cases q : x = y; · exact (teq q).1.trans (own_yes q).symm
             · exact (feq q).1.trans (own_no q).symm
  case ne => by_cases q : x = y; · exact (teq q).2.trans (own_nyes q).symm
             · exact (feq q).2.trans (own_nno q).symm
theorem own_i0 (cd : ClassFile.Cond) (x : Int32) : ifCond.holds cd x = own_c32 cd x 0 := (if0 cd x).trans (own_i2 cd x 0)
theorem own_l0 (cd : ClassFile.Cond) (x y : Int64) : ifCond.holds cd (lcmpW x y) = own_c64 cd x y := by
  rw [own_i0]
  have q1 := lw_lt x y
  have q2 := lw_gt x y
  have q3 := lw_eq x y
  cases cd <;> simp only [own_c32, own_c64, q1, q2, q3]
theorem own_ldI {a : Addr} {k : ClassId} {z j : Int32} {vs : List Value} {dv : Value} (F : Arv Z h a k .int z vs dv) (q : ¬ j < 0 ∧ j < z) : ∃ (cl : Cell) (v : Int32), Arr Z h a cl .int ∧ ¬ (j < 0 ∨ cl.slots.size ≤ j.toNatClampNeg) ∧ cl.slots[j.toNatClampNeg]? = some (.int v) := by
  obtain ⟨cl, A, -, S, M, H, G⟩ := F
  have hin := inb_of S q
  have hlt : j.toNatClampNeg < cl.slots.size := Nat.lt_of_not_le fun y => hin (Or.inr y)
  obtain ⟨v, hv⟩ := fit_I (G _ hlt) (Or.inl rfl)
  exact ⟨cl, v, A, hin, by rw [H _ hlt, hv]⟩
theorem own_len {a : Addr} {k : ClassId} {ty : FieldType} {z : Int32} {vs : List Value} {dv : Value} (F : Arv Z h a k ty z vs dv) : ∃ cl : Cell, Arr Z h a cl ty ∧ cl.slots.size = z.toNatClampNeg ∧ ¬ z < 0 := by
  obtain ⟨cl, A, -, S, M, -, -⟩ := F
  exact ⟨cl, A, S, M⟩
theorem own_at {a : Addr} {k : ClassId} {ty : FieldType} {z j : Int32} {vs : List Value} {dv : Value} (F : Arv Z h a k ty z vs dv) (q : ¬ j < 0 ∧ j < z) {i : Nat} (hj : j.toNatClampNeg = i) {v : Value} (hv : vs.getD i dv = v) : ∃ cl : Cell, Arr Z h a cl ty ∧ ¬ (j < 0 ∨ cl.slots.size ≤ j.toNatClampNeg) ∧ cl.slots[j.toNatClampNeg]? = some v := by
  obtain ⟨cl, A, -, S, M, H, -⟩ := F
  have hin := inb_of S q
  have hlt : j.toNatClampNeg < cl.slots.size := Nat.lt_of_not_le fun y => hin (Or.inr y)
  refine ⟨cl, A, hin, ?_⟩
  rw [H _ hlt, hj, hv]
end OwnKit

theorem pd_0 : parseMethodDescriptor "(J)J" = some ⟨[.long], some .long⟩ := by decide +kernel
def own_sh (x : Int64) (s : Int32) : Int64 := ((x.toUInt64 >>> (s &&& 0x3f).toInt64.toUInt64).toInt64)
def own_sl (x : Int64) (s : Int32) : Int64 := (x <<< (s &&& 0x3f).toInt64)
def own_rem (x y : Int64) : Int64 := x - (x / y) * y
def own_n (x : Int64) : Int64 := own_rem (x &&& (9223372036854775807 : Int64)) (100000000 : Int64)
def own_dg (n c : Int64) : Int64 := own_rem (n / c) (10 : Int64)
def own_vals (n : Int64) : Int64 := (((((((own_dg n (10000000 : Int64) ||| own_sl (own_dg n (1000000 : Int64)) 8) ||| own_sl (own_dg n (100000 : Int64)) 16) ||| own_sl (own_dg n (10000 : Int64)) 24) ||| own_sl (own_dg n (1000 : Int64)) 32) ||| own_sl (own_dg n (100 : Int64)) 40) ||| own_sl (own_dg n (10 : Int64)) 48) ||| own_sl (own_rem n (10 : Int64)) 56)
def own_ca (v : Int64) : Int64 := own_sh (v * (2561 : Int64)) 8 &&& (71777214294589695 : Int64)
def own_cb (v : Int64) : Int64 := own_sh (own_ca v * (6553601 : Int64)) 16 &&& (281470681808895 : Int64)
def own_chunk (v : Int64) : Int64 := own_sh (own_cb v * (42949672960001 : Int64)) 32

theorem d1_0 : decode prog_174_method_9_code 0 = .ok (.lload_n 0, 1) := by decide +kernel
theorem d1_1 : decode prog_174_method_9_code 1 = .ok (.ldc2_w 88, 3) := by decide +kernel
theorem d1_4 : decode prog_174_method_9_code 4 = .ok (.lmul, 1) := by decide +kernel
theorem d1_5 : decode prog_174_method_9_code 5 = .ok (.bipush 8, 2) := by decide +kernel
theorem d1_7 : decode prog_174_method_9_code 7 = .ok (.lushr, 1) := by decide +kernel
theorem d1_8 : decode prog_174_method_9_code 8 = .ok (.ldc2_w 90, 3) := by decide +kernel
theorem d1_11 : decode prog_174_method_9_code 11 = .ok (.land, 1) := by decide +kernel
theorem d1_12 : decode prog_174_method_9_code 12 = .ok (.lstore_n 2, 1) := by decide +kernel
theorem d1_13 : decode prog_174_method_9_code 13 = .ok (.lload_n 2, 1) := by decide +kernel
theorem d1_14 : decode prog_174_method_9_code 14 = .ok (.ldc2_w 94, 3) := by decide +kernel
theorem d1_17 : decode prog_174_method_9_code 17 = .ok (.lmul, 1) := by decide +kernel
theorem d1_18 : decode prog_174_method_9_code 18 = .ok (.bipush 16, 2) := by decide +kernel
theorem d1_20 : decode prog_174_method_9_code 20 = .ok (.lushr, 1) := by decide +kernel
theorem d1_21 : decode prog_174_method_9_code 21 = .ok (.ldc2_w 96, 3) := by decide +kernel
theorem d1_24 : decode prog_174_method_9_code 24 = .ok (.land, 1) := by decide +kernel
theorem d1_25 : decode prog_174_method_9_code 25 = .ok (.lstore 4, 2) := by decide +kernel
theorem d1_27 : decode prog_174_method_9_code 27 = .ok (.lload 4, 2) := by decide +kernel
theorem d1_29 : decode prog_174_method_9_code 29 = .ok (.ldc2_w 100, 3) := by decide +kernel
theorem d1_32 : decode prog_174_method_9_code 32 = .ok (.lmul, 1) := by decide +kernel
theorem d1_33 : decode prog_174_method_9_code 33 = .ok (.bipush 32, 2) := by decide +kernel
theorem d1_35 : decode prog_174_method_9_code 35 = .ok (.lushr, 1) := by decide +kernel
theorem d1_36 : decode prog_174_method_9_code 36 = .ok (.lreturn, 1) := by decide +kernel
theorem pn_1 : plainFor (⟨"com/example/stratum_codecs/stratumcodecs/TextFormat", "chunk", "(J)J"⟩ : MethodName) = true := plainFor_of_name (by first | (simp [plainName, overriddenIn]; done) | decide +kernel)
theorem ef_1 (m : MethodId) (x0 : Int64) : entryFrame m #[(.long x0)] 6 = mkF m 0 #[.val (.long x0), .second, .unset, .unset, .unset, .unset] [] := by first | (simp [entryFrame, mkF, argsToLocals, Value.category]; done) | rfl
set_option maxRecDepth 65536 in
set_option maxHeartbeats 40000000 in
theorem rm1 (l : Launch) (Z : State) (tA : Array Value) (hw : ∀ d ∈ tables_1, d.before tA Z = true) (q0 : Int64) (h0 : Heap) :
    own_Met l Z (⟨"com/example/stratum_codecs/stratumcodecs/TextFormat", "chunk", "(J)J"⟩ : MethodName) prog_174_method_9_code 6 (some .long) ({ frames := 0, cells := 0, slots := 0, locals := 0 } : Room) #[(.long q0)] h0 (own_P (some (.long (own_chunk q0))) h0) := by
  refine own_body pn_1 ?_
  intro p e s m below meth c s₁ X0 hx hZ hby hml hown hret hlk hnm e0
  rw [ef_1]
  show own_Go p e below _ (s₁.setTop (mkF m 0 #[.val (.long q0), .second, .unset, .unset, .unset, .unset] []))
  refine own_st (fun _ k => XS.lloadN X0.here hx rfl (hb hby d1_0) rfl k) ?_
  show own_Go p e below _ (s₁.setTop (mkF m 1 #[.val (.long q0), .second, .unset, .unset, .unset, .unset] [(.long q0)]))
  refine own_st (fun _ k => X0.ldc2Long hx hown (mvT hZ (hw _ (List.mem_of_getElem? (i := 13) rfl))) (g := (mkF m 1 #[.val (.long q0), .second, .unset, .unset, .unset, .unset] [(.long q0)])) rfl (hb hby d1_1) _ k) ?_
  show own_Go p e below _ (s₁.setTop (mkF m 4 #[.val (.long q0), .second, .unset, .unset, .unset, .unset] [(.long (2561 : Int64)), (.long q0)]))
  refine own_st (fun _ k => XS.lmul X0.here hx rfl (hb hby d1_4) rfl k) ?_
  show own_Go p e below _ (s₁.setTop (mkF m 5 #[.val (.long q0), .second, .unset, .unset, .unset, .unset] [(.long (q0 * (2561 : Int64)))]))
  refine own_st (fun _ k => XS.bipush X0.here hx rfl (hb hby d1_5) k) ?_
  show own_Go p e below _ (s₁.setTop (mkF m 7 #[.val (.long q0), .second, .unset, .unset, .unset, .unset] [(.int (8 : Int32)), (.long (q0 * (2561 : Int64)))]))
  refine own_st (fun _ k => XS.lushr X0.here hx rfl (hb hby d1_7) rfl k) ?_
  show own_Go p e below _ (s₁.setTop (mkF m 8 #[.val (.long q0), .second, .unset, .unset, .unset, .unset] [(.long (((q0 * (2561 : Int64)).toUInt64 >>> ((8 : Int32) &&& 0x3f).toInt64.toUInt64).toInt64))]))
  refine own_st (fun _ k => X0.ldc2Long hx hown (mvT hZ (hw _ (List.mem_of_getElem? (i := 14) rfl))) (g := (mkF m 8 #[.val (.long q0), .second, .unset, .unset, .unset, .unset] [(.long (((q0 * (2561 : Int64)).toUInt64 >>> ((8 : Int32) &&& 0x3f).toInt64.toUInt64).toInt64))])) rfl (hb hby d1_8) _ k) ?_
  show own_Go p e below _ (s₁.setTop (mkF m 11 #[.val (.long q0), .second, .unset, .unset, .unset, .unset] [(.long (71777214294589695 : Int64)), (.long (((q0 * (2561 : Int64)).toUInt64 >>> ((8 : Int32) &&& 0x3f).toInt64.toUInt64).toInt64))]))
  refine own_st (fun _ k => XS.land X0.here hx rfl (hb hby d1_11) rfl k) ?_
  show own_Go p e below _ (s₁.setTop (mkF m 12 #[.val (.long q0), .second, .unset, .unset, .unset, .unset] [(.long ((((q0 * (2561 : Int64)).toUInt64 >>> ((8 : Int32) &&& 0x3f).toInt64.toUInt64).toInt64) &&& (71777214294589695 : Int64)))]))
  refine own_st (fun _ k => XS.lstoreN X0.here hx rfl (hb hby d1_12) rfl (l' := #[.val (.long q0), .second, .val (.long ((((q0 * (2561 : Int64)).toUInt64 >>> ((8 : Int32) &&& 0x3f).toInt64.toUInt64).toInt64) &&& (71777214294589695 : Int64))), .second, .unset, .unset]) rfl k) ?_
  show own_Go p e below _ (s₁.setTop (mkF m 13 #[.val (.long q0), .second, .val (.long ((((q0 * (2561 : Int64)).toUInt64 >>> ((8 : Int32) &&& 0x3f).toInt64.toUInt64).toInt64) &&& (71777214294589695 : Int64))), .second, .unset, .unset] []))
  show own_Go p e below _ (s₁.setTop (mkF m 13 #[.val (.long q0), .second, .val (.long (own_ca q0)), .second, .unset, .unset] []))
  refine own_st (fun _ k => XS.lloadN X0.here hx rfl (hb hby d1_13) rfl k) ?_
  show own_Go p e below _ (s₁.setTop (mkF m 14 #[.val (.long q0), .second, .val (.long (own_ca q0)), .second, .unset, .unset] [(.long (own_ca q0))]))
  refine own_st (fun _ k => X0.ldc2Long hx hown (mvT hZ (hw _ (List.mem_of_getElem? (i := 15) rfl))) (g := (mkF m 14 #[.val (.long q0), .second, .val (.long (own_ca q0)), .second, .unset, .unset] [(.long (own_ca q0))])) rfl (hb hby d1_14) _ k) ?_
  show own_Go p e below _ (s₁.setTop (mkF m 17 #[.val (.long q0), .second, .val (.long (own_ca q0)), .second, .unset, .unset] [(.long (6553601 : Int64)), (.long (own_ca q0))]))
  refine own_st (fun _ k => XS.lmul X0.here hx rfl (hb hby d1_17) rfl k) ?_
  show own_Go p e below _ (s₁.setTop (mkF m 18 #[.val (.long q0), .second, .val (.long (own_ca q0)), .second, .unset, .unset] [(.long ((own_ca q0) * (6553601 : Int64)))]))
  refine own_st (fun _ k => XS.bipush X0.here hx rfl (hb hby d1_18) k) ?_
  show own_Go p e below _ (s₁.setTop (mkF m 20 #[.val (.long q0), .second, .val (.long (own_ca q0)), .second, .unset, .unset] [(.int (16 : Int32)), (.long ((own_ca q0) * (6553601 : Int64)))]))
  refine own_st (fun _ k => XS.lushr X0.here hx rfl (hb hby d1_20) rfl k) ?_
  show own_Go p e below _ (s₁.setTop (mkF m 21 #[.val (.long q0), .second, .val (.long (own_ca q0)), .second, .unset, .unset] [(.long ((((own_ca q0) * (6553601 : Int64)).toUInt64 >>> ((16 : Int32) &&& 0x3f).toInt64.toUInt64).toInt64))]))
  refine own_st (fun _ k => X0.ldc2Long hx hown (mvT hZ (hw _ (List.mem_of_getElem? (i := 16) rfl))) (g := (mkF m 21 #[.val (.long q0), .second, .val (.long (own_ca q0)), .second, .unset, .unset] [(.long ((((own_ca q0) * (6553601 : Int64)).toUInt64 >>> ((16 : Int32) &&& 0x3f).toInt64.toUInt64).toInt64))])) rfl (hb hby d1_21) _ k) ?_
  show own_Go p e below _ (s₁.setTop (mkF m 24 #[.val (.long q0), .second, .val (.long (own_ca q0)), .second, .unset, .unset] [(.long (281470681808895 : Int64)), (.long ((((own_ca q0) * (6553601 : Int64)).toUInt64 >>> ((16 : Int32) &&& 0x3f).toInt64.toUInt64).toInt64))]))
  refine own_st (fun _ k => XS.land X0.here hx rfl (hb hby d1_24) rfl k) ?_
  show own_Go p e below _ (s₁.setTop (mkF m 25 #[.val (.long q0), .second, .val (.long (own_ca q0)), .second, .unset, .unset] [(.long (((((own_ca q0) * (6553601 : Int64)).toUInt64 >>> ((16 : Int32) &&& 0x3f).toInt64.toUInt64).toInt64) &&& (281470681808895 : Int64)))]))
  refine own_st (fun _ k => XS.lstore X0.here hx rfl (hb hby d1_25) rfl (l' := #[.val (.long q0), .second, .val (.long (own_ca q0)), .second, .val (.long (((((own_ca q0) * (6553601 : Int64)).toUInt64 >>> ((16 : Int32) &&& 0x3f).toInt64.toUInt64).toInt64) &&& (281470681808895 : Int64))), .second]) rfl k) ?_
  show own_Go p e below _ (s₁.setTop (mkF m 27 #[.val (.long q0), .second, .val (.long (own_ca q0)), .second, .val (.long (((((own_ca q0) * (6553601 : Int64)).toUInt64 >>> ((16 : Int32) &&& 0x3f).toInt64.toUInt64).toInt64) &&& (281470681808895 : Int64))), .second] []))
  show own_Go p e below _ (s₁.setTop (mkF m 27 #[.val (.long q0), .second, .val (.long (own_ca q0)), .second, .val (.long (own_cb q0)), .second] []))
  refine own_st (fun _ k => XS.lload X0.here hx rfl (hb hby d1_27) rfl k) ?_
  show own_Go p e below _ (s₁.setTop (mkF m 29 #[.val (.long q0), .second, .val (.long (own_ca q0)), .second, .val (.long (own_cb q0)), .second] [(.long (own_cb q0))]))
  refine own_st (fun _ k => X0.ldc2Long hx hown (mvT hZ (hw _ (List.mem_of_getElem? (i := 17) rfl))) (g := (mkF m 29 #[.val (.long q0), .second, .val (.long (own_ca q0)), .second, .val (.long (own_cb q0)), .second] [(.long (own_cb q0))])) rfl (hb hby d1_29) _ k) ?_
  show own_Go p e below _ (s₁.setTop (mkF m 32 #[.val (.long q0), .second, .val (.long (own_ca q0)), .second, .val (.long (own_cb q0)), .second] [(.long (42949672960001 : Int64)), (.long (own_cb q0))]))
  refine own_st (fun _ k => XS.lmul X0.here hx rfl (hb hby d1_32) rfl k) ?_
  show own_Go p e below _ (s₁.setTop (mkF m 33 #[.val (.long q0), .second, .val (.long (own_ca q0)), .second, .val (.long (own_cb q0)), .second] [(.long ((own_cb q0) * (42949672960001 : Int64)))]))
  refine own_st (fun _ k => XS.bipush X0.here hx rfl (hb hby d1_33) k) ?_
  show own_Go p e below _ (s₁.setTop (mkF m 35 #[.val (.long q0), .second, .val (.long (own_ca q0)), .second, .val (.long (own_cb q0)), .second] [(.int (32 : Int32)), (.long ((own_cb q0) * (42949672960001 : Int64)))]))
  refine own_st (fun _ k => XS.lushr X0.here hx rfl (hb hby d1_35) rfl k) ?_
  show own_Go p e below _ (s₁.setTop (mkF m 36 #[.val (.long q0), .second, .val (.long (own_ca q0)), .second, .val (.long (own_cb q0)), .second] [(.long ((((own_cb q0) * (42949672960001 : Int64)).toUInt64 >>> ((32 : Int32) &&& 0x3f).toInt64.toUInt64).toInt64))]))
  exact own_retJ X0 hx hlk hret (hb hby d1_36) ⟨rfl, rfl, e0⟩ (by decide) (by decide)
theorem own_and16 (a b c d : Nat) (ha : a < 65536) (hc : c < 65536) : (a + 65536 * b) &&& (c + 65536 * d) = (a &&& c) + 65536 * (b &&& d) := by
  have e1 : ((a + 65536 * b) &&& (c + 65536 * d)) % 2 ^ 16 = a &&& c := by
    rw [Nat.and_mod_two_pow]; congr 1 <;> omega
  have e2 : ((a + 65536 * b) &&& (c + 65536 * d)) / 2 ^ 16 = b &&& d := by
    rw [← Nat.shiftRight_eq_div_pow, Nat.shiftRight_and_distrib, Nat.shiftRight_eq_div_pow, Nat.shiftRight_eq_div_pow]; congr 1 <;> omega
  omega
theorem own_and8 (a b : Nat) (ha : a < 256) : (a + 256 * b) &&& 255 = a := by
  have : (a + 256 * b) &&& 255 = (a + 256 * b) % 2 ^ 8 := Nat.and_two_pow_sub_one_eq_mod _ 8
  rw [this]; omega
theorem own_m1 (e0 e1 e2 e3 e4 e5 e6 : Nat) (h0 : e0 < 100) (h1 : e1 < 100) (h2 : e2 < 100) (h3 : e3 < 100) (h4 : e4 < 100) (h5 : e5 < 100) (h6 : e6 < 100) :
    ((e0 + 256 * e1) + 65536 * ((e2 + 256 * e3) + 65536 * ((e4 + 256 * e5) + 65536 * e6))) &&& 71777214294589695 = e0 + 65536 * (e2 + 65536 * (e4 + 65536 * e6)) := by
  have q : (71777214294589695 : Nat) = 255 + 65536 * (255 + 65536 * (255 + 65536 * 255)) := rfl
  have r6 : e6 &&& 255 = e6 := by have := own_and8 e6 0 (by omega); simpa using this
  rw [q, own_and16 _ _ _ _ (by omega) (by omega), own_and8 _ _ (by omega), own_and16 _ _ _ _ (by omega) (by omega), own_and8 _ _ (by omega), own_and16 _ _ _ _ (by omega) (by omega), own_and8 _ _ (by omega), r6]
theorem own_full (a : Nat) (h : a < 65536) : a &&& 65535 = a := by
  have : a &&& 65535 = a % 2 ^ 16 := Nat.and_two_pow_sub_one_eq_mod _ 16
  rw [this]; omega
theorem own_m2 (g0 g1 g2 : Nat) (h0 : g0 < 10000) (h1 : g1 < 10000) (h2 : g2 < 10000) : (g0 + 65536 * (g1 + 65536 * g2)) &&& 281470681808895 = g0 + 65536 * (65536 * g2) := by
  have q : (281470681808895 : Nat) = 65535 + 65536 * (0 + 65536 * 65535) := rfl
  rw [q, own_and16 _ _ _ _ (by omega) (by omega), own_full _ (by omega), own_and16 _ _ _ _ (by omega) (by omega), own_full _ (by omega), Nat.and_zero]
  omega
theorem own_dv (V Y P d : Nat) (h : V = d + P * Y) (hd : d < P) : V / P = Y := by
  subst h; rw [Nat.add_mul_div_left _ _ (by omega)]; rw [Nat.div_eq_of_lt hd]; omega
theorem own_md (V X Y M : Nat) (h : V = X + M * Y) (hX : X < M) : V % M = X := by
  subst h; rw [Nat.add_mul_mod_self_left]; exact Nat.mod_eq_of_lt hX
theorem own_sp (V d E Y P M : Nat) (h : V = (d + P * E) + M * Y) (hd : d < P) (hE : d + P * E < M) : V % M / P = E := by
  rw [own_md V (d + P * E) Y _ h hE]; exact own_dv _ _ _ d rfl hd
theorem own_eA (d0 d1 d2 d3 d4 d5 d6 d7 : Nat) (h0 : d0 < 10) (h1 : d1 < 10) (h2 : d2 < 10) (h3 : d3 < 10) (h4 : d4 < 10) (h5 : d5 < 10) (h6 : d6 < 10) (h7 : d7 < 10) :
    (d0 + d1 * 256 + d2 * 65536 + d3 * 16777216 + d4 * 4294967296 + d5 * 1099511627776 + d6 * 281474976710656 + d7 * 72057594037927936) * 2561 % 18446744073709551616 / 256 = ((10 * d0 + d1) + 256 * (10 * d1 + d2)) + 65536 * (((10 * d2 + d3) + 256 * (10 * d3 + d4)) + 65536 * (((10 * d4 + d5) + 256 * (10 * d5 + d6)) + 65536 * (10 * d6 + d7))) :=
  own_sp _ d0 _ (10 * d7) _ _ (by omega) (by omega) (by omega)
theorem own_eB (f0 f1 f2 f3 : Nat) (h0 : f0 < 100) (h1 : f1 < 100) (h2 : f2 < 100) (h3 : f3 < 100) :
    (f0 + 65536 * (f1 + 65536 * (f2 + 65536 * f3))) * 6553601 % 18446744073709551616 / 65536 = (100 * f0 + f1) + 65536 * ((100 * f1 + f2) + 65536 * (100 * f2 + f3)) :=
  own_sp _ f0 _ (100 * f3) _ _ (by omega) (by omega) (by omega)
theorem own_eG (g0 g2 : Nat) (h0 : g0 < 10000) (h2 : g2 < 10000) :
    (g0 + 65536 * (65536 * g2)) * 42949672960001 % 18446744073709551616 / 4294967296 = 10000 * g0 + g2 :=
  own_sp _ g0 _ (10000 * g2) _ _ (by omega) (by omega) (by omega)
theorem own_chunkN (d0 d1 d2 d3 d4 d5 d6 d7 : Nat) (h0 : d0 < 10) (h1 : d1 < 10) (h2 : d2 < 10) (h3 : d3 < 10) (h4 : d4 < 10) (h5 : d5 < 10) (h6 : d6 < 10) (h7 : d7 < 10) :
    ((((d0 + d1 * 256 + d2 * 65536 + d3 * 16777216 + d4 * 4294967296 + d5 * 1099511627776 + d6 * 281474976710656 + d7 * 72057594037927936) * 2561 % 18446744073709551616 / 256 &&& 71777214294589695) * 6553601 % 18446744073709551616 / 65536 &&& 281470681808895) * 42949672960001) % 18446744073709551616 / 4294967296 = d0 * 10000000 + d1 * 1000000 + d2 * 100000 + d3 * 10000 + d4 * 1000 + d5 * 100 + d6 * 10 + d7 := by
  rw [own_eA d0 d1 d2 d3 d4 d5 d6 d7 h0 h1 h2 h3 h4 h5 h6 h7, own_m1 _ _ _ _ _ _ _ (by omega) (by omega) (by omega) (by omega) (by omega) (by omega) (by omega),
    own_eB _ _ _ _ (by omega) (by omega) (by omega) (by omega), own_m2 _ _ _ (by omega) (by omega) (by omega), own_eG _ _ (by omega) (by omega)]
  omega
theorem own_nn (x : Int64) (h : 0 ≤ x.toInt) : x.toInt = (x.toBitVec.toNat : Int) := by
  have e : x.toInt = x.toBitVec.toInt := rfl
  have l := x.toBitVec.isLt
  rw [e, BitVec.toInt_eq_toNat_cond] at h ⊢
  by_cases q : 2 * x.toBitVec.toNat < 2 ^ 64
  · rw [if_pos q]
  · rw [if_neg q] at h; omega
theorem own_dgN (n c : Int64) (d : Nat) (hc : c.toInt = (d : Int)) (h1 : c ≠ -1) (h : 0 ≤ n.toInt) : (own_dg n c).toBitVec.toNat = n.toBitVec.toNat / d % 10 := by
  have e1 := (c_ldiv n c (d : Int) hc h1).1 h
  have p1 : 0 ≤ (n / c).toInt := by rw [e1]; exact Int.ediv_nonneg h (by omega)
  have e2 := (c_lrem (n / c) 10 10 rfl).1 p1
  have e3 : (own_dg n c).toInt = (n.toInt / (d : Int)) % 10 := by rw [← e1]; exact e2
  have p3 : 0 ≤ (own_dg n c).toInt := by rw [e3]; omega
  rw [own_nn _ p3, own_nn _ h] at e3
  exact_mod_cast e3
theorem own_remN (n : Int64) (h : 0 ≤ n.toInt) : (own_rem n 10).toBitVec.toNat = n.toBitVec.toNat % 10 := by
  have e2 : (own_rem n 10).toInt = n.toInt % 10 := (c_lrem n 10 10 rfl).1 h
  have p3 : 0 ≤ (own_rem n 10).toInt := by rw [e2]; omega
  rw [own_nn _ p3, own_nn _ h] at e2
  exact_mod_cast e2
theorem own_nr (x : Int64) : 0 ≤ (own_n x).toInt ∧ (own_n x).toInt < 100000000 := by
  have e1 := c_maskL x (9223372036854775807 : Int64) 63 (by decide) (by decide)
  have e2 : (own_n x).toInt = _ := (c_lrem (x &&& (9223372036854775807 : Int64)) 100000000 100000000 rfl).1 (by rw [e1]; omega)
  rw [e2]; omega
theorem own_or (a b k P : Nat) (hP : P = 2 ^ k) (h : a < P) : a ||| b * P = a + b * P := by
  subst hP
  have := Nat.two_pow_add_eq_or_of_lt h b
  rw [Nat.or_comm, Nat.mul_comm b, ← this, Nat.add_comm]
theorem own_slN (x : Int64) (s : Int32) (k P : Nat) (hs : (own_sl x s).toBitVec = x.toBitVec <<< k) (hP : P = 2 ^ k) (h : x.toBitVec.toNat * P < 18446744073709551616) : (own_sl x s).toBitVec.toNat = x.toBitVec.toNat * P := by
  rw [hs, BitVec.toNat_shiftLeft, Nat.shiftLeft_eq, ← hP]; exact Nat.mod_eq_of_lt h
theorem own_shN (x : Int64) (s : Int32) (k P : Nat) (hs : (own_sh x s).toBitVec = x.toBitVec >>> k) (hP : P = 2 ^ k) : (own_sh x s).toBitVec.toNat = x.toBitVec.toNat / P := by
  rw [hs, BitVec.toNat_ushiftRight, Nat.shiftRight_eq_div_pow, ← hP]
theorem own_valsN (n : Int64) (d0 d1 d2 d3 d4 d5 d6 d7 : Nat) (e0 : (own_dg n (10000000 : Int64)).toBitVec.toNat = d0) (e1 : (own_dg n (1000000 : Int64)).toBitVec.toNat = d1) (e2 : (own_dg n (100000 : Int64)).toBitVec.toNat = d2) (e3 : (own_dg n (10000 : Int64)).toBitVec.toNat = d3)
    (e4 : (own_dg n (1000 : Int64)).toBitVec.toNat = d4) (e5 : (own_dg n (100 : Int64)).toBitVec.toNat = d5) (e6 : (own_dg n (10 : Int64)).toBitVec.toNat = d6) (e7 : (own_rem n (10 : Int64)).toBitVec.toNat = d7)
    (h0 : d0 < 10) (h1 : d1 < 10) (h2 : d2 < 10) (h3 : d3 < 10) (h4 : d4 < 10) (h5 : d5 < 10) (h6 : d6 < 10) (h7 : d7 < 10) :
    (own_vals n).toBitVec.toNat = d0 + d1 * 256 + d2 * 65536 + d3 * 16777216 + d4 * 4294967296 + d5 * 1099511627776 + d6 * 281474976710656 + d7 * 72057594037927936 := by
  simp only [own_vals, Int64.toBitVec_or, BitVec.toNat_or]
  rw [own_slN _ 8 8 256 rfl rfl (by rw [e1]; omega), own_slN _ 16 16 65536 rfl rfl (by rw [e2]; omega), own_slN _ 24 24 16777216 rfl rfl (by rw [e3]; omega), own_slN _ 32 32 4294967296 rfl rfl (by rw [e4]; omega), own_slN _ 40 40 1099511627776 rfl rfl (by rw [e5]; omega), own_slN _ 48 48 281474976710656 rfl rfl (by rw [e6]; omega), own_slN _ 56 56 72057594037927936 rfl rfl (by rw [e7]; omega)]
  rw [e0, e1, e2, e3, e4, e5, e6, e7]
  rw [own_or _ _ 8 256 rfl (by omega), own_or _ _ 16 65536 rfl (by omega), own_or _ _ 24 16777216 rfl (by omega), own_or _ _ 32 4294967296 rfl (by omega), own_or _ _ 40 1099511627776 rfl (by omega), own_or _ _ 48 281474976710656 rfl (by omega), own_or _ _ 56 72057594037927936 rfl (by omega)]
theorem own_digits (t : Nat) (h : t < 100000000) : t / 10000000 % 10 * 10000000 + t / 1000000 % 10 * 1000000 + t / 100000 % 10 * 100000 + t / 10000 % 10 * 10000 + t / 1000 % 10 * 1000 + t / 100 % 10 * 100 + t / 10 % 10 * 10 + t % 10 = t := by
  have q2 : t / 100 = t / 10 / 10 := by rw [Nat.div_div_eq_div_mul]
  have q3 : t / 1000 = t / 10 / 10 / 10 := by rw [Nat.div_div_eq_div_mul, Nat.div_div_eq_div_mul]
  have q4 : t / 10000 = t / 10 / 10 / 10 / 10 := by simp only [Nat.div_div_eq_div_mul]
  have q5 : t / 100000 = t / 10 / 10 / 10 / 10 / 10 := by simp only [Nat.div_div_eq_div_mul]
  have q6 : t / 1000000 = t / 10 / 10 / 10 / 10 / 10 / 10 := by simp only [Nat.div_div_eq_div_mul]
  have q7 : t / 10000000 = t / 10 / 10 / 10 / 10 / 10 / 10 / 10 := by simp only [Nat.div_div_eq_div_mul]
  rw [q2, q3, q4, q5, q6, q7]
  omega
theorem own_law (x : Int64) : own_chunk (own_vals (own_n x)) = own_n x := by
  obtain ⟨r1, r2⟩ := own_nr x
  generalize own_n x = n at *
  rw [own_nn _ r1] at r2
  have hv := own_valsN n _ _ _ _ _ _ _ _ (own_dgN n 10000000 10000000 rfl (by decide) r1) (own_dgN n 1000000 1000000 rfl (by decide) r1) (own_dgN n 100000 100000 rfl (by decide) r1) (own_dgN n 10000 10000 rfl (by decide) r1) (own_dgN n 1000 1000 rfl (by decide) r1) (own_dgN n 100 100 rfl (by decide) r1) (own_dgN n 10 10 rfl (by decide) r1) (own_remN n r1)
    (Nat.mod_lt _ (by decide)) (Nat.mod_lt _ (by decide)) (Nat.mod_lt _ (by decide)) (Nat.mod_lt _ (by decide)) (Nat.mod_lt _ (by decide)) (Nat.mod_lt _ (by decide)) (Nat.mod_lt _ (by decide)) (Nat.mod_lt _ (by decide))
  apply Int64.toBitVec_inj.mp
  apply BitVec.eq_of_toNat_eq
  have ht : n.toBitVec.toNat < 100000000 := by omega
  have hc : (own_chunk (own_vals n)).toBitVec.toNat = ((((own_vals n).toBitVec.toNat * 2561 % 18446744073709551616 / 256 &&& 71777214294589695) * 6553601 % 18446744073709551616 / 65536 &&& 281470681808895) * 42949672960001) % 18446744073709551616 / 4294967296 := by
    rw [own_chunk, own_shN _ 32 32 4294967296 rfl rfl, Int64.toBitVec_mul, BitVec.toNat_mul, own_cb, Int64.toBitVec_and, BitVec.toNat_and, own_shN _ 16 16 65536 rfl rfl, Int64.toBitVec_mul, BitVec.toNat_mul, own_ca, Int64.toBitVec_and, BitVec.toNat_and, own_shN _ 8 8 256 rfl rfl, Int64.toBitVec_mul, BitVec.toNat_mul]
    rfl
  rw [hc, hv, own_chunkN _ _ _ _ _ _ _ _ (Nat.mod_lt _ (by decide)) (Nat.mod_lt _ (by decide)) (Nat.mod_lt _ (by decide)) (Nat.mod_lt _ (by decide)) (Nat.mod_lt _ (by decide)) (Nat.mod_lt _ (by decide)) (Nat.mod_lt _ (by decide)) (Nat.mod_lt _ (by decide))]
  exact own_digits _ ht

theorem pn_0 : plainFor (⟨"com/example/stratum_codecs/stratumcodecs/TextFormatChunkPinLaw", "law", "(J)Z"⟩ : MethodName) = true := plainFor_of_name (by first | (simp [plainName, overriddenIn]; done) | decide +kernel)
theorem ef_0 (m : MethodId) (x0 : Int64) : entryFrame m #[(.long x0)] maxLocals = mkF m 0 #[.val (.long x0), .second, .unset, .unset, .unset, .unset, .unset, .unset, .unset, .unset, .unset, .unset, .unset, .unset, .unset, .unset, .unset, .unset, .unset, .unset, .unset, .unset] [] := by first | (simp [entryFrame, mkF, argsToLocals, Value.category, maxLocals]; done) | rfl
set_option maxRecDepth 65536 in
set_option maxHeartbeats 40000000 in
theorem rm0 (l : Launch) (Z : State) (tA : Array Value) (hw : ∀ d ∈ tables_1, d.before tA Z = true) (q0 : Int64) (h0 : Heap) (n0 : Nat) (Z0 : n0 ≤ h0.size) :
    MetFree l x (head1 (Jvm.Cond.code x code maxLocals ret :: tables_1) room_1) (fun a U => a = #[(.long q0)] ∧ Z.Warmed39 U.vm ∧ U.heap = h0) (fun _ _ _ _ _ => True) (fun _ U o U' => own_Post U (fun v _ L => v = some (.int (1 : Int32)) ∧ Fr n0 L) 0 0 o U') := by
  refine own_body pn_0 ?_
  intro p e s m below meth c s₁ X0 hx hZ hby hml hown hret hlk hnm e0
  have N0 := Fr.nil n0
  rw [ef_0]
  show own_Go p e below _ (s₁.setTop (mkF m 0 #[.val (.long q0), .second, .unset, .unset, .unset, .unset, .unset, .unset, .unset, .unset, .unset, .unset, .unset, .unset, .unset, .unset, .unset, .unset, .unset, .unset, .unset, .unset] []))
  refine own_st (fun _ k => XS.lloadN X0.here hx rfl (hb hby at_0) rfl k) ?_
  show own_Go p e below _ (s₁.setTop (mkF m 1 #[.val (.long q0), .second, .unset, .unset, .unset, .unset, .unset, .unset, .unset, .unset, .unset, .unset, .unset, .unset, .unset, .unset, .unset, .unset, .unset, .unset, .unset, .unset] [(.long q0)]))
  refine own_st (fun _ k => X0.ldc2Long hx hown (mvT hZ (hw _ (List.mem_of_getElem? (i := 0) rfl))) (g := (mkF m 1 #[.val (.long q0), .second, .unset, .unset, .unset, .unset, .unset, .unset, .unset, .unset, .unset, .unset, .unset, .unset, .unset, .unset, .unset, .unset, .unset, .unset, .unset, .unset] [(.long q0)])) rfl (hb hby at_1) _ k) ?_
  show own_Go p e below _ (s₁.setTop (mkF m 4 #[.val (.long q0), .second, .unset, .unset, .unset, .unset, .unset, .unset, .unset, .unset, .unset, .unset, .unset, .unset, .unset, .unset, .unset, .unset, .unset, .unset, .unset, .unset] [(.long (9223372036854775807 : Int64)), (.long q0)]))
  refine own_st (fun _ k => XS.land X0.here hx rfl (hb hby at_4) rfl k) ?_
  show own_Go p e below _ (s₁.setTop (mkF m 5 #[.val (.long q0), .second, .unset, .unset, .unset, .unset, .unset, .unset, .unset, .unset, .unset, .unset, .unset, .unset, .unset, .unset, .unset, .unset, .unset, .unset, .unset, .unset] [(.long (q0 &&& (9223372036854775807 : Int64)))]))
  refine own_st (fun _ k => X0.ldc2Long hx hown (mvT hZ (hw _ (List.mem_of_getElem? (i := 1) rfl))) (g := (mkF m 5 #[.val (.long q0), .second, .unset, .unset, .unset, .unset, .unset, .unset, .unset, .unset, .unset, .unset, .unset, .unset, .unset, .unset, .unset, .unset, .unset, .unset, .unset, .unset] [(.long (q0 &&& (9223372036854775807 : Int64)))])) rfl (hb hby at_5) _ k) ?_
  show own_Go p e below _ (s₁.setTop (mkF m 8 #[.val (.long q0), .second, .unset, .unset, .unset, .unset, .unset, .unset, .unset, .unset, .unset, .unset, .unset, .unset, .unset, .unset, .unset, .unset, .unset, .unset, .unset, .unset] [(.long (100000000 : Int64)), (.long (q0 &&& (9223372036854775807 : Int64)))]))
  refine own_st (fun _ k => XS.lrem X0.here hx rfl (hb hby at_8) rfl (by decide) k) ?_
  show own_Go p e below _ (s₁.setTop (mkF m 9 #[.val (.long q0), .second, .unset, .unset, .unset, .unset, .unset, .unset, .unset, .unset, .unset, .unset, .unset, .unset, .unset, .unset, .unset, .unset, .unset, .unset, .unset, .unset] [(.long ((q0 &&& (9223372036854775807 : Int64)) - ((q0 &&& (9223372036854775807 : Int64)) / (100000000 : Int64)) * (100000000 : Int64)))]))
  refine own_st (fun _ k => XS.lstoreN X0.here hx rfl (hb hby at_9) rfl (l' := #[.val (.long q0), .second, .val (.long ((q0 &&& (9223372036854775807 : Int64)) - ((q0 &&& (9223372036854775807 : Int64)) / (100000000 : Int64)) * (100000000 : Int64))), .second, .unset, .unset, .unset, .unset, .unset, .unset, .unset, .unset, .unset, .unset, .unset, .unset, .unset, .unset, .unset, .unset, .unset, .unset]) rfl k) ?_
  show own_Go p e below _ (s₁.setTop (mkF m 10 #[.val (.long q0), .second, .val (.long ((q0 &&& (9223372036854775807 : Int64)) - ((q0 &&& (9223372036854775807 : Int64)) / (100000000 : Int64)) * (100000000 : Int64))), .second, .unset, .unset, .unset, .unset, .unset, .unset, .unset, .unset, .unset, .unset, .unset, .unset, .unset, .unset, .unset, .unset, .unset, .unset] []))
  show own_Go p e below _ (s₁.setTop (mkF m 10 #[.val (.long q0), .second, .val (.long (own_n q0)), .second, .unset, .unset, .unset, .unset, .unset, .unset, .unset, .unset, .unset, .unset, .unset, .unset, .unset, .unset, .unset, .unset, .unset, .unset] []))
  refine own_st (fun _ k => XS.lloadN X0.here hx rfl (hb hby at_10) rfl k) ?_
  show own_Go p e below _ (s₁.setTop (mkF m 11 #[.val (.long q0), .second, .val (.long (own_n q0)), .second, .unset, .unset, .unset, .unset, .unset, .unset, .unset, .unset, .unset, .unset, .unset, .unset, .unset, .unset, .unset, .unset, .unset, .unset] [(.long (own_n q0))]))
  refine own_st (fun _ k => X0.ldc2Long hx hown (mvT hZ (hw _ (List.mem_of_getElem? (i := 2) rfl))) (g := (mkF m 11 #[.val (.long q0), .second, .val (.long (own_n q0)), .second, .unset, .unset, .unset, .unset, .unset, .unset, .unset, .unset, .unset, .unset, .unset, .unset, .unset, .unset, .unset, .unset, .unset, .unset] [(.long (own_n q0))])) rfl (hb hby at_11) _ k) ?_
  show own_Go p e below _ (s₁.setTop (mkF m 14 #[.val (.long q0), .second, .val (.long (own_n q0)), .second, .unset, .unset, .unset, .unset, .unset, .unset, .unset, .unset, .unset, .unset, .unset, .unset, .unset, .unset, .unset, .unset, .unset, .unset] [(.long (10000000 : Int64)), (.long (own_n q0))]))
  refine own_st (fun _ k => XS.ldiv X0.here hx rfl (hb hby at_14) rfl (by decide) k) ?_
  show own_Go p e below _ (s₁.setTop (mkF m 15 #[.val (.long q0), .second, .val (.long (own_n q0)), .second, .unset, .unset, .unset, .unset, .unset, .unset, .unset, .unset, .unset, .unset, .unset, .unset, .unset, .unset, .unset, .unset, .unset, .unset] [(.long ((own_n q0) / (10000000 : Int64)))]))
  refine own_st (fun _ k => X0.ldc2Long hx hown (mvT hZ (hw _ (List.mem_of_getElem? (i := 3) rfl))) (g := (mkF m 15 #[.val (.long q0), .second, .val (.long (own_n q0)), .second, .unset, .unset, .unset, .unset, .unset, .unset, .unset, .unset, .unset, .unset, .unset, .unset, .unset, .unset, .unset, .unset, .unset, .unset] [(.long ((own_n q0) / (10000000 : Int64)))])) rfl (hb hby at_15) _ k) ?_
  show own_Go p e below _ (s₁.setTop (mkF m 18 #[.val (.long q0), .second, .val (.long (own_n q0)), .second, .unset, .unset, .unset, .unset, .unset, .unset, .unset, .unset, .unset, .unset, .unset, .unset, .unset, .unset, .unset, .unset, .unset, .unset] [(.long (10 : Int64)), (.long ((own_n q0) / (10000000 : Int64)))]))
  refine own_st (fun _ k => XS.lrem X0.here hx rfl (hb hby at_18) rfl (by decide) k) ?_
  show own_Go p e below _ (s₁.setTop (mkF m 19 #[.val (.long q0), .second, .val (.long (own_n q0)), .second, .unset, .unset, .unset, .unset, .unset, .unset, .unset, .unset, .unset, .unset, .unset, .unset, .unset, .unset, .unset, .unset, .unset, .unset] [(.long (((own_n q0) / (10000000 : Int64)) - (((own_n q0) / (10000000 : Int64)) / (10 : Int64)) * (10 : Int64)))]))
  refine own_st (fun _ k => XS.lstore X0.here hx rfl (hb hby at_19) rfl (l' := #[.val (.long q0), .second, .val (.long (own_n q0)), .second, .val (.long (((own_n q0) / (10000000 : Int64)) - (((own_n q0) / (10000000 : Int64)) / (10 : Int64)) * (10 : Int64))), .second, .unset, .unset, .unset, .unset, .unset, .unset, .unset, .unset, .unset, .unset, .unset, .unset, .unset, .unset, .unset, .unset]) rfl k) ?_
  show own_Go p e below _ (s₁.setTop (mkF m 21 #[.val (.long q0), .second, .val (.long (own_n q0)), .second, .val (.long (((own_n q0) / (10000000 : Int64)) - (((own_n q0) / (10000000 : Int64)) / (10 : Int64)) * (10 : Int64))), .second, .unset, .unset, .unset, .unset, .unset, .unset, .unset, .unset, .unset, .unset, .unset, .unset, .unset, .unset, .unset, .unset] []))
  show own_Go p e below _ (s₁.setTop (mkF m 21 #[.val (.long q0), .second, .val (.long (own_n q0)), .second, .val (.long (own_dg (own_n q0) (10000000 : Int64))), .second, .unset, .unset, .unset, .unset, .unset, .unset, .unset, .unset, .unset, .unset, .unset, .unset, .unset, .unset, .unset, .unset] []))
  refine own_st (fun _ k => XS.lloadN X0.here hx rfl (hb hby at_21) rfl k) ?_
  show own_Go p e below _ (s₁.setTop (mkF m 22 #[.val (.long q0), .second, .val (.long (own_n q0)), .second, .val (.long (own_dg (own_n q0) (10000000 : Int64))), .second, .unset, .unset, .unset, .unset, .unset, .unset, .unset, .unset, .unset, .unset, .unset, .unset, .unset, .unset, .unset, .unset] [(.long (own_n q0))]))
  refine own_st (fun _ k => X0.ldc2Long hx hown (mvT hZ (hw _ (List.mem_of_getElem? (i := 4) rfl))) (g := (mkF m 22 #[.val (.long q0), .second, .val (.long (own_n q0)), .second, .val (.long (own_dg (own_n q0) (10000000 : Int64))), .second, .unset, .unset, .unset, .unset, .unset, .unset, .unset, .unset, .unset, .unset, .unset, .unset, .unset, .unset, .unset, .unset] [(.long (own_n q0))])) rfl (hb hby at_22) _ k) ?_
  show own_Go p e below _ (s₁.setTop (mkF m 25 #[.val (.long q0), .second, .val (.long (own_n q0)), .second, .val (.long (own_dg (own_n q0) (10000000 : Int64))), .second, .unset, .unset, .unset, .unset, .unset, .unset, .unset, .unset, .unset, .unset, .unset, .unset, .unset, .unset, .unset, .unset] [(.long (1000000 : Int64)), (.long (own_n q0))]))
  refine own_st (fun _ k => XS.ldiv X0.here hx rfl (hb hby at_25) rfl (by decide) k) ?_
  show own_Go p e below _ (s₁.setTop (mkF m 26 #[.val (.long q0), .second, .val (.long (own_n q0)), .second, .val (.long (own_dg (own_n q0) (10000000 : Int64))), .second, .unset, .unset, .unset, .unset, .unset, .unset, .unset, .unset, .unset, .unset, .unset, .unset, .unset, .unset, .unset, .unset] [(.long ((own_n q0) / (1000000 : Int64)))]))
  refine own_st (fun _ k => X0.ldc2Long hx hown (mvT hZ (hw _ (List.mem_of_getElem? (i := 3) rfl))) (g := (mkF m 26 #[.val (.long q0), .second, .val (.long (own_n q0)), .second, .val (.long (own_dg (own_n q0) (10000000 : Int64))), .second, .unset, .unset, .unset, .unset, .unset, .unset, .unset, .unset, .unset, .unset, .unset, .unset, .unset, .unset, .unset, .unset] [(.long ((own_n q0) / (1000000 : Int64)))])) rfl (hb hby at_26) _ k) ?_
  show own_Go p e below _ (s₁.setTop (mkF m 29 #[.val (.long q0), .second, .val (.long (own_n q0)), .second, .val (.long (own_dg (own_n q0) (10000000 : Int64))), .second, .unset, .unset, .unset, .unset, .unset, .unset, .unset, .unset, .unset, .unset, .unset, .unset, .unset, .unset, .unset, .unset] [(.long (10 : Int64)), (.long ((own_n q0) / (1000000 : Int64)))]))
  refine own_st (fun _ k => XS.lrem X0.here hx rfl (hb hby at_29) rfl (by decide) k) ?_
  show own_Go p e below _ (s₁.setTop (mkF m 30 #[.val (.long q0), .second, .val (.long (own_n q0)), .second, .val (.long (own_dg (own_n q0) (10000000 : Int64))), .second, .unset, .unset, .unset, .unset, .unset, .unset, .unset, .unset, .unset, .unset, .unset, .unset, .unset, .unset, .unset, .unset] [(.long (((own_n q0) / (1000000 : Int64)) - (((own_n q0) / (1000000 : Int64)) / (10 : Int64)) * (10 : Int64)))]))
  refine own_st (fun _ k => XS.lstore X0.here hx rfl (hb hby at_30) rfl (l' := #[.val (.long q0), .second, .val (.long (own_n q0)), .second, .val (.long (own_dg (own_n q0) (10000000 : Int64))), .second, .val (.long (((own_n q0) / (1000000 : Int64)) - (((own_n q0) / (1000000 : Int64)) / (10 : Int64)) * (10 : Int64))), .second, .unset, .unset, .unset, .unset, .unset, .unset, .unset, .unset, .unset, .unset, .unset, .unset, .unset, .unset]) rfl k) ?_
  show own_Go p e below _ (s₁.setTop (mkF m 32 #[.val (.long q0), .second, .val (.long (own_n q0)), .second, .val (.long (own_dg (own_n q0) (10000000 : Int64))), .second, .val (.long (((own_n q0) / (1000000 : Int64)) - (((own_n q0) / (1000000 : Int64)) / (10 : Int64)) * (10 : Int64))), .second, .unset, .unset, .unset, .unset, .unset, .unset, .unset, .unset, .unset, .unset, .unset, .unset, .unset, .unset] []))
  show own_Go p e below _ (s₁.setTop (mkF m 32 #[.val (.long q0), .second, .val (.long (own_n q0)), .second, .val (.long (own_dg (own_n q0) (10000000 : Int64))), .second, .val (.long (own_dg (own_n q0) (1000000 : Int64))), .second, .unset, .unset, .unset, .unset, .unset, .unset, .unset, .unset, .unset, .unset, .unset, .unset, .unset, .unset] []))
  refine own_st (fun _ k => XS.lloadN X0.here hx rfl (hb hby at_32) rfl k) ?_
  show own_Go p e below _ (s₁.setTop (mkF m 33 #[.val (.long q0), .second, .val (.long (own_n q0)), .second, .val (.long (own_dg (own_n q0) (10000000 : Int64))), .second, .val (.long (own_dg (own_n q0) (1000000 : Int64))), .second, .unset, .unset, .unset, .unset, .unset, .unset, .unset, .unset, .unset, .unset, .unset, .unset, .unset, .unset] [(.long (own_n q0))]))
  refine own_st (fun _ k => X0.ldc2Long hx hown (mvT hZ (hw _ (List.mem_of_getElem? (i := 5) rfl))) (g := (mkF m 33 #[.val (.long q0), .second, .val (.long (own_n q0)), .second, .val (.long (own_dg (own_n q0) (10000000 : Int64))), .second, .val (.long (own_dg (own_n q0) (1000000 : Int64))), .second, .unset, .unset, .unset, .unset, .unset, .unset, .unset, .unset, .unset, .unset, .unset, .unset, .unset, .unset] [(.long (own_n q0))])) rfl (hb hby at_33) _ k) ?_
  show own_Go p e below _ (s₁.setTop (mkF m 36 #[.val (.long q0), .second, .val (.long (own_n q0)), .second, .val (.long (own_dg (own_n q0) (10000000 : Int64))), .second, .val (.long (own_dg (own_n q0) (1000000 : Int64))), .second, .unset, .unset, .unset, .unset, .unset, .unset, .unset, .unset, .unset, .unset, .unset, .unset, .unset, .unset] [(.long (100000 : Int64)), (.long (own_n q0))]))
  refine own_st (fun _ k => XS.ldiv X0.here hx rfl (hb hby at_36) rfl (by decide) k) ?_
  show own_Go p e below _ (s₁.setTop (mkF m 37 #[.val (.long q0), .second, .val (.long (own_n q0)), .second, .val (.long (own_dg (own_n q0) (10000000 : Int64))), .second, .val (.long (own_dg (own_n q0) (1000000 : Int64))), .second, .unset, .unset, .unset, .unset, .unset, .unset, .unset, .unset, .unset, .unset, .unset, .unset, .unset, .unset] [(.long ((own_n q0) / (100000 : Int64)))]))
  refine own_st (fun _ k => X0.ldc2Long hx hown (mvT hZ (hw _ (List.mem_of_getElem? (i := 3) rfl))) (g := (mkF m 37 #[.val (.long q0), .second, .val (.long (own_n q0)), .second, .val (.long (own_dg (own_n q0) (10000000 : Int64))), .second, .val (.long (own_dg (own_n q0) (1000000 : Int64))), .second, .unset, .unset, .unset, .unset, .unset, .unset, .unset, .unset, .unset, .unset, .unset, .unset, .unset, .unset] [(.long ((own_n q0) / (100000 : Int64)))])) rfl (hb hby at_37) _ k) ?_
  show own_Go p e below _ (s₁.setTop (mkF m 40 #[.val (.long q0), .second, .val (.long (own_n q0)), .second, .val (.long (own_dg (own_n q0) (10000000 : Int64))), .second, .val (.long (own_dg (own_n q0) (1000000 : Int64))), .second, .unset, .unset, .unset, .unset, .unset, .unset, .unset, .unset, .unset, .unset, .unset, .unset, .unset, .unset] [(.long (10 : Int64)), (.long ((own_n q0) / (100000 : Int64)))]))
  refine own_st (fun _ k => XS.lrem X0.here hx rfl (hb hby at_40) rfl (by decide) k) ?_
  show own_Go p e below _ (s₁.setTop (mkF m 41 #[.val (.long q0), .second, .val (.long (own_n q0)), .second, .val (.long (own_dg (own_n q0) (10000000 : Int64))), .second, .val (.long (own_dg (own_n q0) (1000000 : Int64))), .second, .unset, .unset, .unset, .unset, .unset, .unset, .unset, .unset, .unset, .unset, .unset, .unset, .unset, .unset] [(.long (((own_n q0) / (100000 : Int64)) - (((own_n q0) / (100000 : Int64)) / (10 : Int64)) * (10 : Int64)))]))
  refine own_st (fun _ k => XS.lstore X0.here hx rfl (hb hby at_41) rfl (l' := #[.val (.long q0), .second, .val (.long (own_n q0)), .second, .val (.long (own_dg (own_n q0) (10000000 : Int64))), .second, .val (.long (own_dg (own_n q0) (1000000 : Int64))), .second, .val (.long (((own_n q0) / (100000 : Int64)) - (((own_n q0) / (100000 : Int64)) / (10 : Int64)) * (10 : Int64))), .second, .unset, .unset, .unset, .unset, .unset, .unset, .unset, .unset, .unset, .unset, .unset, .unset]) rfl k) ?_
  show own_Go p e below _ (s₁.setTop (mkF m 43 #[.val (.long q0), .second, .val (.long (own_n q0)), .second, .val (.long (own_dg (own_n q0) (10000000 : Int64))), .second, .val (.long (own_dg (own_n q0) (1000000 : Int64))), .second, .val (.long (((own_n q0) / (100000 : Int64)) - (((own_n q0) / (100000 : Int64)) / (10 : Int64)) * (10 : Int64))), .second, .unset, .unset, .unset, .unset, .unset, .unset, .unset, .unset, .unset, .unset, .unset, .unset] []))
  show own_Go p e below _ (s₁.setTop (mkF m 43 #[.val (.long q0), .second, .val (.long (own_n q0)), .second, .val (.long (own_dg (own_n q0) (10000000 : Int64))), .second, .val (.long (own_dg (own_n q0) (1000000 : Int64))), .second, .val (.long (own_dg (own_n q0) (100000 : Int64))), .second, .unset, .unset, .unset, .unset, .unset, .unset, .unset, .unset, .unset, .unset, .unset, .unset] []))
  refine own_st (fun _ k => XS.lloadN X0.here hx rfl (hb hby at_43) rfl k) ?_
  show own_Go p e below _ (s₁.setTop (mkF m 44 #[.val (.long q0), .second, .val (.long (own_n q0)), .second, .val (.long (own_dg (own_n q0) (10000000 : Int64))), .second, .val (.long (own_dg (own_n q0) (1000000 : Int64))), .second, .val (.long (own_dg (own_n q0) (100000 : Int64))), .second, .unset, .unset, .unset, .unset, .unset, .unset, .unset, .unset, .unset, .unset, .unset, .unset] [(.long (own_n q0))]))
  refine own_st (fun _ k => X0.ldc2Long hx hown (mvT hZ (hw _ (List.mem_of_getElem? (i := 6) rfl))) (g := (mkF m 44 #[.val (.long q0), .second, .val (.long (own_n q0)), .second, .val (.long (own_dg (own_n q0) (10000000 : Int64))), .second, .val (.long (own_dg (own_n q0) (1000000 : Int64))), .second, .val (.long (own_dg (own_n q0) (100000 : Int64))), .second, .unset, .unset, .unset, .unset, .unset, .unset, .unset, .unset, .unset, .unset, .unset, .unset] [(.long (own_n q0))])) rfl (hb hby at_44) _ k) ?_
  show own_Go p e below _ (s₁.setTop (mkF m 47 #[.val (.long q0), .second, .val (.long (own_n q0)), .second, .val (.long (own_dg (own_n q0) (10000000 : Int64))), .second, .val (.long (own_dg (own_n q0) (1000000 : Int64))), .second, .val (.long (own_dg (own_n q0) (100000 : Int64))), .second, .unset, .unset, .unset, .unset, .unset, .unset, .unset, .unset, .unset, .unset, .unset, .unset] [(.long (10000 : Int64)), (.long (own_n q0))]))
  refine own_st (fun _ k => XS.ldiv X0.here hx rfl (hb hby at_47) rfl (by decide) k) ?_
  show own_Go p e below _ (s₁.setTop (mkF m 48 #[.val (.long q0), .second, .val (.long (own_n q0)), .second, .val (.long (own_dg (own_n q0) (10000000 : Int64))), .second, .val (.long (own_dg (own_n q0) (1000000 : Int64))), .second, .val (.long (own_dg (own_n q0) (100000 : Int64))), .second, .unset, .unset, .unset, .unset, .unset, .unset, .unset, .unset, .unset, .unset, .unset, .unset] [(.long ((own_n q0) / (10000 : Int64)))]))
  refine own_st (fun _ k => X0.ldc2Long hx hown (mvT hZ (hw _ (List.mem_of_getElem? (i := 3) rfl))) (g := (mkF m 48 #[.val (.long q0), .second, .val (.long (own_n q0)), .second, .val (.long (own_dg (own_n q0) (10000000 : Int64))), .second, .val (.long (own_dg (own_n q0) (1000000 : Int64))), .second, .val (.long (own_dg (own_n q0) (100000 : Int64))), .second, .unset, .unset, .unset, .unset, .unset, .unset, .unset, .unset, .unset, .unset, .unset, .unset] [(.long ((own_n q0) / (10000 : Int64)))])) rfl (hb hby at_48) _ k) ?_
  show own_Go p e below _ (s₁.setTop (mkF m 51 #[.val (.long q0), .second, .val (.long (own_n q0)), .second, .val (.long (own_dg (own_n q0) (10000000 : Int64))), .second, .val (.long (own_dg (own_n q0) (1000000 : Int64))), .second, .val (.long (own_dg (own_n q0) (100000 : Int64))), .second, .unset, .unset, .unset, .unset, .unset, .unset, .unset, .unset, .unset, .unset, .unset, .unset] [(.long (10 : Int64)), (.long ((own_n q0) / (10000 : Int64)))]))
  refine own_st (fun _ k => XS.lrem X0.here hx rfl (hb hby at_51) rfl (by decide) k) ?_
  show own_Go p e below _ (s₁.setTop (mkF m 52 #[.val (.long q0), .second, .val (.long (own_n q0)), .second, .val (.long (own_dg (own_n q0) (10000000 : Int64))), .second, .val (.long (own_dg (own_n q0) (1000000 : Int64))), .second, .val (.long (own_dg (own_n q0) (100000 : Int64))), .second, .unset, .unset, .unset, .unset, .unset, .unset, .unset, .unset, .unset, .unset, .unset, .unset] [(.long (((own_n q0) / (10000 : Int64)) - (((own_n q0) / (10000 : Int64)) / (10 : Int64)) * (10 : Int64)))]))
  refine own_st (fun _ k => XS.lstore X0.here hx rfl (hb hby at_52) rfl (l' := #[.val (.long q0), .second, .val (.long (own_n q0)), .second, .val (.long (own_dg (own_n q0) (10000000 : Int64))), .second, .val (.long (own_dg (own_n q0) (1000000 : Int64))), .second, .val (.long (own_dg (own_n q0) (100000 : Int64))), .second, .val (.long (((own_n q0) / (10000 : Int64)) - (((own_n q0) / (10000 : Int64)) / (10 : Int64)) * (10 : Int64))), .second, .unset, .unset, .unset, .unset, .unset, .unset, .unset, .unset, .unset, .unset]) rfl k) ?_
  show own_Go p e below _ (s₁.setTop (mkF m 54 #[.val (.long q0), .second, .val (.long (own_n q0)), .second, .val (.long (own_dg (own_n q0) (10000000 : Int64))), .second, .val (.long (own_dg (own_n q0) (1000000 : Int64))), .second, .val (.long (own_dg (own_n q0) (100000 : Int64))), .second, .val (.long (((own_n q0) / (10000 : Int64)) - (((own_n q0) / (10000 : Int64)) / (10 : Int64)) * (10 : Int64))), .second, .unset, .unset, .unset, .unset, .unset, .unset, .unset, .unset, .unset, .unset] []))
  show own_Go p e below _ (s₁.setTop (mkF m 54 #[.val (.long q0), .second, .val (.long (own_n q0)), .second, .val (.long (own_dg (own_n q0) (10000000 : Int64))), .second, .val (.long (own_dg (own_n q0) (1000000 : Int64))), .second, .val (.long (own_dg (own_n q0) (100000 : Int64))), .second, .val (.long (own_dg (own_n q0) (10000 : Int64))), .second, .unset, .unset, .unset, .unset, .unset, .unset, .unset, .unset, .unset, .unset] []))
  refine own_st (fun _ k => XS.lloadN X0.here hx rfl (hb hby at_54) rfl k) ?_
  show own_Go p e below _ (s₁.setTop (mkF m 55 #[.val (.long q0), .second, .val (.long (own_n q0)), .second, .val (.long (own_dg (own_n q0) (10000000 : Int64))), .second, .val (.long (own_dg (own_n q0) (1000000 : Int64))), .second, .val (.long (own_dg (own_n q0) (100000 : Int64))), .second, .val (.long (own_dg (own_n q0) (10000 : Int64))), .second, .unset, .unset, .unset, .unset, .unset, .unset, .unset, .unset, .unset, .unset] [(.long (own_n q0))]))
  refine own_st (fun _ k => X0.ldc2Long hx hown (mvT hZ (hw _ (List.mem_of_getElem? (i := 7) rfl))) (g := (mkF m 55 #[.val (.long q0), .second, .val (.long (own_n q0)), .second, .val (.long (own_dg (own_n q0) (10000000 : Int64))), .second, .val (.long (own_dg (own_n q0) (1000000 : Int64))), .second, .val (.long (own_dg (own_n q0) (100000 : Int64))), .second, .val (.long (own_dg (own_n q0) (10000 : Int64))), .second, .unset, .unset, .unset, .unset, .unset, .unset, .unset, .unset, .unset, .unset] [(.long (own_n q0))])) rfl (hb hby at_55) _ k) ?_
  show own_Go p e below _ (s₁.setTop (mkF m 58 #[.val (.long q0), .second, .val (.long (own_n q0)), .second, .val (.long (own_dg (own_n q0) (10000000 : Int64))), .second, .val (.long (own_dg (own_n q0) (1000000 : Int64))), .second, .val (.long (own_dg (own_n q0) (100000 : Int64))), .second, .val (.long (own_dg (own_n q0) (10000 : Int64))), .second, .unset, .unset, .unset, .unset, .unset, .unset, .unset, .unset, .unset, .unset] [(.long (1000 : Int64)), (.long (own_n q0))]))
  refine own_st (fun _ k => XS.ldiv X0.here hx rfl (hb hby at_58) rfl (by decide) k) ?_
  show own_Go p e below _ (s₁.setTop (mkF m 59 #[.val (.long q0), .second, .val (.long (own_n q0)), .second, .val (.long (own_dg (own_n q0) (10000000 : Int64))), .second, .val (.long (own_dg (own_n q0) (1000000 : Int64))), .second, .val (.long (own_dg (own_n q0) (100000 : Int64))), .second, .val (.long (own_dg (own_n q0) (10000 : Int64))), .second, .unset, .unset, .unset, .unset, .unset, .unset, .unset, .unset, .unset, .unset] [(.long ((own_n q0) / (1000 : Int64)))]))
  refine own_st (fun _ k => X0.ldc2Long hx hown (mvT hZ (hw _ (List.mem_of_getElem? (i := 3) rfl))) (g := (mkF m 59 #[.val (.long q0), .second, .val (.long (own_n q0)), .second, .val (.long (own_dg (own_n q0) (10000000 : Int64))), .second, .val (.long (own_dg (own_n q0) (1000000 : Int64))), .second, .val (.long (own_dg (own_n q0) (100000 : Int64))), .second, .val (.long (own_dg (own_n q0) (10000 : Int64))), .second, .unset, .unset, .unset, .unset, .unset, .unset, .unset, .unset, .unset, .unset] [(.long ((own_n q0) / (1000 : Int64)))])) rfl (hb hby at_59) _ k) ?_
  show own_Go p e below _ (s₁.setTop (mkF m 62 #[.val (.long q0), .second, .val (.long (own_n q0)), .second, .val (.long (own_dg (own_n q0) (10000000 : Int64))), .second, .val (.long (own_dg (own_n q0) (1000000 : Int64))), .second, .val (.long (own_dg (own_n q0) (100000 : Int64))), .second, .val (.long (own_dg (own_n q0) (10000 : Int64))), .second, .unset, .unset, .unset, .unset, .unset, .unset, .unset, .unset, .unset, .unset] [(.long (10 : Int64)), (.long ((own_n q0) / (1000 : Int64)))]))
  refine own_st (fun _ k => XS.lrem X0.here hx rfl (hb hby at_62) rfl (by decide) k) ?_
  show own_Go p e below _ (s₁.setTop (mkF m 63 #[.val (.long q0), .second, .val (.long (own_n q0)), .second, .val (.long (own_dg (own_n q0) (10000000 : Int64))), .second, .val (.long (own_dg (own_n q0) (1000000 : Int64))), .second, .val (.long (own_dg (own_n q0) (100000 : Int64))), .second, .val (.long (own_dg (own_n q0) (10000 : Int64))), .second, .unset, .unset, .unset, .unset, .unset, .unset, .unset, .unset, .unset, .unset] [(.long (((own_n q0) / (1000 : Int64)) - (((own_n q0) / (1000 : Int64)) / (10 : Int64)) * (10 : Int64)))]))
  refine own_st (fun _ k => XS.lstore X0.here hx rfl (hb hby at_63) rfl (l' := #[.val (.long q0), .second, .val (.long (own_n q0)), .second, .val (.long (own_dg (own_n q0) (10000000 : Int64))), .second, .val (.long (own_dg (own_n q0) (1000000 : Int64))), .second, .val (.long (own_dg (own_n q0) (100000 : Int64))), .second, .val (.long (own_dg (own_n q0) (10000 : Int64))), .second, .val (.long (((own_n q0) / (1000 : Int64)) - (((own_n q0) / (1000 : Int64)) / (10 : Int64)) * (10 : Int64))), .second, .unset, .unset, .unset, .unset, .unset, .unset, .unset, .unset]) rfl k) ?_
  show own_Go p e below _ (s₁.setTop (mkF m 65 #[.val (.long q0), .second, .val (.long (own_n q0)), .second, .val (.long (own_dg (own_n q0) (10000000 : Int64))), .second, .val (.long (own_dg (own_n q0) (1000000 : Int64))), .second, .val (.long (own_dg (own_n q0) (100000 : Int64))), .second, .val (.long (own_dg (own_n q0) (10000 : Int64))), .second, .val (.long (((own_n q0) / (1000 : Int64)) - (((own_n q0) / (1000 : Int64)) / (10 : Int64)) * (10 : Int64))), .second, .unset, .unset, .unset, .unset, .unset, .unset, .unset, .unset] []))
  show own_Go p e below _ (s₁.setTop (mkF m 65 #[.val (.long q0), .second, .val (.long (own_n q0)), .second, .val (.long (own_dg (own_n q0) (10000000 : Int64))), .second, .val (.long (own_dg (own_n q0) (1000000 : Int64))), .second, .val (.long (own_dg (own_n q0) (100000 : Int64))), .second, .val (.long (own_dg (own_n q0) (10000 : Int64))), .second, .val (.long (own_dg (own_n q0) (1000 : Int64))), .second, .unset, .unset, .unset, .unset, .unset, .unset, .unset, .unset] []))
  refine own_st (fun _ k => XS.lloadN X0.here hx rfl (hb hby at_65) rfl k) ?_
  show own_Go p e below _ (s₁.setTop (mkF m 66 #[.val (.long q0), .second, .val (.long (own_n q0)), .second, .val (.long (own_dg (own_n q0) (10000000 : Int64))), .second, .val (.long (own_dg (own_n q0) (1000000 : Int64))), .second, .val (.long (own_dg (own_n q0) (100000 : Int64))), .second, .val (.long (own_dg (own_n q0) (10000 : Int64))), .second, .val (.long (own_dg (own_n q0) (1000 : Int64))), .second, .unset, .unset, .unset, .unset, .unset, .unset, .unset, .unset] [(.long (own_n q0))]))
  refine own_st (fun _ k => X0.ldc2Long hx hown (mvT hZ (hw _ (List.mem_of_getElem? (i := 8) rfl))) (g := (mkF m 66 #[.val (.long q0), .second, .val (.long (own_n q0)), .second, .val (.long (own_dg (own_n q0) (10000000 : Int64))), .second, .val (.long (own_dg (own_n q0) (1000000 : Int64))), .second, .val (.long (own_dg (own_n q0) (100000 : Int64))), .second, .val (.long (own_dg (own_n q0) (10000 : Int64))), .second, .val (.long (own_dg (own_n q0) (1000 : Int64))), .second, .unset, .unset, .unset, .unset, .unset, .unset, .unset, .unset] [(.long (own_n q0))])) rfl (hb hby at_66) _ k) ?_
  show own_Go p e below _ (s₁.setTop (mkF m 69 #[.val (.long q0), .second, .val (.long (own_n q0)), .second, .val (.long (own_dg (own_n q0) (10000000 : Int64))), .second, .val (.long (own_dg (own_n q0) (1000000 : Int64))), .second, .val (.long (own_dg (own_n q0) (100000 : Int64))), .second, .val (.long (own_dg (own_n q0) (10000 : Int64))), .second, .val (.long (own_dg (own_n q0) (1000 : Int64))), .second, .unset, .unset, .unset, .unset, .unset, .unset, .unset, .unset] [(.long (100 : Int64)), (.long (own_n q0))]))
  refine own_st (fun _ k => XS.ldiv X0.here hx rfl (hb hby at_69) rfl (by decide) k) ?_
  show own_Go p e below _ (s₁.setTop (mkF m 70 #[.val (.long q0), .second, .val (.long (own_n q0)), .second, .val (.long (own_dg (own_n q0) (10000000 : Int64))), .second, .val (.long (own_dg (own_n q0) (1000000 : Int64))), .second, .val (.long (own_dg (own_n q0) (100000 : Int64))), .second, .val (.long (own_dg (own_n q0) (10000 : Int64))), .second, .val (.long (own_dg (own_n q0) (1000 : Int64))), .second, .unset, .unset, .unset, .unset, .unset, .unset, .unset, .unset] [(.long ((own_n q0) / (100 : Int64)))]))
  refine own_st (fun _ k => X0.ldc2Long hx hown (mvT hZ (hw _ (List.mem_of_getElem? (i := 3) rfl))) (g := (mkF m 70 #[.val (.long q0), .second, .val (.long (own_n q0)), .second, .val (.long (own_dg (own_n q0) (10000000 : Int64))), .second, .val (.long (own_dg (own_n q0) (1000000 : Int64))), .second, .val (.long (own_dg (own_n q0) (100000 : Int64))), .second, .val (.long (own_dg (own_n q0) (10000 : Int64))), .second, .val (.long (own_dg (own_n q0) (1000 : Int64))), .second, .unset, .unset, .unset, .unset, .unset, .unset, .unset, .unset] [(.long ((own_n q0) / (100 : Int64)))])) rfl (hb hby at_70) _ k) ?_
  show own_Go p e below _ (s₁.setTop (mkF m 73 #[.val (.long q0), .second, .val (.long (own_n q0)), .second, .val (.long (own_dg (own_n q0) (10000000 : Int64))), .second, .val (.long (own_dg (own_n q0) (1000000 : Int64))), .second, .val (.long (own_dg (own_n q0) (100000 : Int64))), .second, .val (.long (own_dg (own_n q0) (10000 : Int64))), .second, .val (.long (own_dg (own_n q0) (1000 : Int64))), .second, .unset, .unset, .unset, .unset, .unset, .unset, .unset, .unset] [(.long (10 : Int64)), (.long ((own_n q0) / (100 : Int64)))]))
  refine own_st (fun _ k => XS.lrem X0.here hx rfl (hb hby at_73) rfl (by decide) k) ?_
  show own_Go p e below _ (s₁.setTop (mkF m 74 #[.val (.long q0), .second, .val (.long (own_n q0)), .second, .val (.long (own_dg (own_n q0) (10000000 : Int64))), .second, .val (.long (own_dg (own_n q0) (1000000 : Int64))), .second, .val (.long (own_dg (own_n q0) (100000 : Int64))), .second, .val (.long (own_dg (own_n q0) (10000 : Int64))), .second, .val (.long (own_dg (own_n q0) (1000 : Int64))), .second, .unset, .unset, .unset, .unset, .unset, .unset, .unset, .unset] [(.long (((own_n q0) / (100 : Int64)) - (((own_n q0) / (100 : Int64)) / (10 : Int64)) * (10 : Int64)))]))
  refine own_st (fun _ k => XS.lstore X0.here hx rfl (hb hby at_74) rfl (l' := #[.val (.long q0), .second, .val (.long (own_n q0)), .second, .val (.long (own_dg (own_n q0) (10000000 : Int64))), .second, .val (.long (own_dg (own_n q0) (1000000 : Int64))), .second, .val (.long (own_dg (own_n q0) (100000 : Int64))), .second, .val (.long (own_dg (own_n q0) (10000 : Int64))), .second, .val (.long (own_dg (own_n q0) (1000 : Int64))), .second, .val (.long (((own_n q0) / (100 : Int64)) - (((own_n q0) / (100 : Int64)) / (10 : Int64)) * (10 : Int64))), .second, .unset, .unset, .unset, .unset, .unset, .unset]) rfl k) ?_
  show own_Go p e below _ (s₁.setTop (mkF m 76 #[.val (.long q0), .second, .val (.long (own_n q0)), .second, .val (.long (own_dg (own_n q0) (10000000 : Int64))), .second, .val (.long (own_dg (own_n q0) (1000000 : Int64))), .second, .val (.long (own_dg (own_n q0) (100000 : Int64))), .second, .val (.long (own_dg (own_n q0) (10000 : Int64))), .second, .val (.long (own_dg (own_n q0) (1000 : Int64))), .second, .val (.long (((own_n q0) / (100 : Int64)) - (((own_n q0) / (100 : Int64)) / (10 : Int64)) * (10 : Int64))), .second, .unset, .unset, .unset, .unset, .unset, .unset] []))
  show own_Go p e below _ (s₁.setTop (mkF m 76 #[.val (.long q0), .second, .val (.long (own_n q0)), .second, .val (.long (own_dg (own_n q0) (10000000 : Int64))), .second, .val (.long (own_dg (own_n q0) (1000000 : Int64))), .second, .val (.long (own_dg (own_n q0) (100000 : Int64))), .second, .val (.long (own_dg (own_n q0) (10000 : Int64))), .second, .val (.long (own_dg (own_n q0) (1000 : Int64))), .second, .val (.long (own_dg (own_n q0) (100 : Int64))), .second, .unset, .unset, .unset, .unset, .unset, .unset] []))
  refine own_st (fun _ k => XS.lloadN X0.here hx rfl (hb hby at_76) rfl k) ?_
  show own_Go p e below _ (s₁.setTop (mkF m 77 #[.val (.long q0), .second, .val (.long (own_n q0)), .second, .val (.long (own_dg (own_n q0) (10000000 : Int64))), .second, .val (.long (own_dg (own_n q0) (1000000 : Int64))), .second, .val (.long (own_dg (own_n q0) (100000 : Int64))), .second, .val (.long (own_dg (own_n q0) (10000 : Int64))), .second, .val (.long (own_dg (own_n q0) (1000 : Int64))), .second, .val (.long (own_dg (own_n q0) (100 : Int64))), .second, .unset, .unset, .unset, .unset, .unset, .unset] [(.long (own_n q0))]))
  refine own_st (fun _ k => X0.ldc2Long hx hown (mvT hZ (hw _ (List.mem_of_getElem? (i := 3) rfl))) (g := (mkF m 77 #[.val (.long q0), .second, .val (.long (own_n q0)), .second, .val (.long (own_dg (own_n q0) (10000000 : Int64))), .second, .val (.long (own_dg (own_n q0) (1000000 : Int64))), .second, .val (.long (own_dg (own_n q0) (100000 : Int64))), .second, .val (.long (own_dg (own_n q0) (10000 : Int64))), .second, .val (.long (own_dg (own_n q0) (1000 : Int64))), .second, .val (.long (own_dg (own_n q0) (100 : Int64))), .second, .unset, .unset, .unset, .unset, .unset, .unset] [(.long (own_n q0))])) rfl (hb hby at_77) _ k) ?_
  show own_Go p e below _ (s₁.setTop (mkF m 80 #[.val (.long q0), .second, .val (.long (own_n q0)), .second, .val (.long (own_dg (own_n q0) (10000000 : Int64))), .second, .val (.long (own_dg (own_n q0) (1000000 : Int64))), .second, .val (.long (own_dg (own_n q0) (100000 : Int64))), .second, .val (.long (own_dg (own_n q0) (10000 : Int64))), .second, .val (.long (own_dg (own_n q0) (1000 : Int64))), .second, .val (.long (own_dg (own_n q0) (100 : Int64))), .second, .unset, .unset, .unset, .unset, .unset, .unset] [(.long (10 : Int64)), (.long (own_n q0))]))
  refine own_st (fun _ k => XS.ldiv X0.here hx rfl (hb hby at_80) rfl (by decide) k) ?_
  show own_Go p e below _ (s₁.setTop (mkF m 81 #[.val (.long q0), .second, .val (.long (own_n q0)), .second, .val (.long (own_dg (own_n q0) (10000000 : Int64))), .second, .val (.long (own_dg (own_n q0) (1000000 : Int64))), .second, .val (.long (own_dg (own_n q0) (100000 : Int64))), .second, .val (.long (own_dg (own_n q0) (10000 : Int64))), .second, .val (.long (own_dg (own_n q0) (1000 : Int64))), .second, .val (.long (own_dg (own_n q0) (100 : Int64))), .second, .unset, .unset, .unset, .unset, .unset, .unset] [(.long ((own_n q0) / (10 : Int64)))]))
  refine own_st (fun _ k => X0.ldc2Long hx hown (mvT hZ (hw _ (List.mem_of_getElem? (i := 3) rfl))) (g := (mkF m 81 #[.val (.long q0), .second, .val (.long (own_n q0)), .second, .val (.long (own_dg (own_n q0) (10000000 : Int64))), .second, .val (.long (own_dg (own_n q0) (1000000 : Int64))), .second, .val (.long (own_dg (own_n q0) (100000 : Int64))), .second, .val (.long (own_dg (own_n q0) (10000 : Int64))), .second, .val (.long (own_dg (own_n q0) (1000 : Int64))), .second, .val (.long (own_dg (own_n q0) (100 : Int64))), .second, .unset, .unset, .unset, .unset, .unset, .unset] [(.long ((own_n q0) / (10 : Int64)))])) rfl (hb hby at_81) _ k) ?_
  show own_Go p e below _ (s₁.setTop (mkF m 84 #[.val (.long q0), .second, .val (.long (own_n q0)), .second, .val (.long (own_dg (own_n q0) (10000000 : Int64))), .second, .val (.long (own_dg (own_n q0) (1000000 : Int64))), .second, .val (.long (own_dg (own_n q0) (100000 : Int64))), .second, .val (.long (own_dg (own_n q0) (10000 : Int64))), .second, .val (.long (own_dg (own_n q0) (1000 : Int64))), .second, .val (.long (own_dg (own_n q0) (100 : Int64))), .second, .unset, .unset, .unset, .unset, .unset, .unset] [(.long (10 : Int64)), (.long ((own_n q0) / (10 : Int64)))]))
  refine own_st (fun _ k => XS.lrem X0.here hx rfl (hb hby at_84) rfl (by decide) k) ?_
  show own_Go p e below _ (s₁.setTop (mkF m 85 #[.val (.long q0), .second, .val (.long (own_n q0)), .second, .val (.long (own_dg (own_n q0) (10000000 : Int64))), .second, .val (.long (own_dg (own_n q0) (1000000 : Int64))), .second, .val (.long (own_dg (own_n q0) (100000 : Int64))), .second, .val (.long (own_dg (own_n q0) (10000 : Int64))), .second, .val (.long (own_dg (own_n q0) (1000 : Int64))), .second, .val (.long (own_dg (own_n q0) (100 : Int64))), .second, .unset, .unset, .unset, .unset, .unset, .unset] [(.long (((own_n q0) / (10 : Int64)) - (((own_n q0) / (10 : Int64)) / (10 : Int64)) * (10 : Int64)))]))
  refine own_st (fun _ k => XS.lstore X0.here hx rfl (hb hby at_85) rfl (l' := #[.val (.long q0), .second, .val (.long (own_n q0)), .second, .val (.long (own_dg (own_n q0) (10000000 : Int64))), .second, .val (.long (own_dg (own_n q0) (1000000 : Int64))), .second, .val (.long (own_dg (own_n q0) (100000 : Int64))), .second, .val (.long (own_dg (own_n q0) (10000 : Int64))), .second, .val (.long (own_dg (own_n q0) (1000 : Int64))), .second, .val (.long (own_dg (own_n q0) (100 : Int64))), .second, .val (.long (((own_n q0) / (10 : Int64)) - (((own_n q0) / (10 : Int64)) / (10 : Int64)) * (10 : Int64))), .second, .unset, .unset, .unset, .unset]) rfl k) ?_
  show own_Go p e below _ (s₁.setTop (mkF m 87 #[.val (.long q0), .second, .val (.long (own_n q0)), .second, .val (.long (own_dg (own_n q0) (10000000 : Int64))), .second, .val (.long (own_dg (own_n q0) (1000000 : Int64))), .second, .val (.long (own_dg (own_n q0) (100000 : Int64))), .second, .val (.long (own_dg (own_n q0) (10000 : Int64))), .second, .val (.long (own_dg (own_n q0) (1000 : Int64))), .second, .val (.long (own_dg (own_n q0) (100 : Int64))), .second, .val (.long (((own_n q0) / (10 : Int64)) - (((own_n q0) / (10 : Int64)) / (10 : Int64)) * (10 : Int64))), .second, .unset, .unset, .unset, .unset] []))
  show own_Go p e below _ (s₁.setTop (mkF m 87 #[.val (.long q0), .second, .val (.long (own_n q0)), .second, .val (.long (own_dg (own_n q0) (10000000 : Int64))), .second, .val (.long (own_dg (own_n q0) (1000000 : Int64))), .second, .val (.long (own_dg (own_n q0) (100000 : Int64))), .second, .val (.long (own_dg (own_n q0) (10000 : Int64))), .second, .val (.long (own_dg (own_n q0) (1000 : Int64))), .second, .val (.long (own_dg (own_n q0) (100 : Int64))), .second, .val (.long (own_dg (own_n q0) (10 : Int64))), .second, .unset, .unset, .unset, .unset] []))
  refine own_st (fun _ k => XS.lloadN X0.here hx rfl (hb hby at_87) rfl k) ?_
  show own_Go p e below _ (s₁.setTop (mkF m 88 #[.val (.long q0), .second, .val (.long (own_n q0)), .second, .val (.long (own_dg (own_n q0) (10000000 : Int64))), .second, .val (.long (own_dg (own_n q0) (1000000 : Int64))), .second, .val (.long (own_dg (own_n q0) (100000 : Int64))), .second, .val (.long (own_dg (own_n q0) (10000 : Int64))), .second, .val (.long (own_dg (own_n q0) (1000 : Int64))), .second, .val (.long (own_dg (own_n q0) (100 : Int64))), .second, .val (.long (own_dg (own_n q0) (10 : Int64))), .second, .unset, .unset, .unset, .unset] [(.long (own_n q0))]))
  refine own_st (fun _ k => X0.ldc2Long hx hown (mvT hZ (hw _ (List.mem_of_getElem? (i := 3) rfl))) (g := (mkF m 88 #[.val (.long q0), .second, .val (.long (own_n q0)), .second, .val (.long (own_dg (own_n q0) (10000000 : Int64))), .second, .val (.long (own_dg (own_n q0) (1000000 : Int64))), .second, .val (.long (own_dg (own_n q0) (100000 : Int64))), .second, .val (.long (own_dg (own_n q0) (10000 : Int64))), .second, .val (.long (own_dg (own_n q0) (1000 : Int64))), .second, .val (.long (own_dg (own_n q0) (100 : Int64))), .second, .val (.long (own_dg (own_n q0) (10 : Int64))), .second, .unset, .unset, .unset, .unset] [(.long (own_n q0))])) rfl (hb hby at_88) _ k) ?_
  show own_Go p e below _ (s₁.setTop (mkF m 91 #[.val (.long q0), .second, .val (.long (own_n q0)), .second, .val (.long (own_dg (own_n q0) (10000000 : Int64))), .second, .val (.long (own_dg (own_n q0) (1000000 : Int64))), .second, .val (.long (own_dg (own_n q0) (100000 : Int64))), .second, .val (.long (own_dg (own_n q0) (10000 : Int64))), .second, .val (.long (own_dg (own_n q0) (1000 : Int64))), .second, .val (.long (own_dg (own_n q0) (100 : Int64))), .second, .val (.long (own_dg (own_n q0) (10 : Int64))), .second, .unset, .unset, .unset, .unset] [(.long (10 : Int64)), (.long (own_n q0))]))
  refine own_st (fun _ k => XS.lrem X0.here hx rfl (hb hby at_91) rfl (by decide) k) ?_
  show own_Go p e below _ (s₁.setTop (mkF m 92 #[.val (.long q0), .second, .val (.long (own_n q0)), .second, .val (.long (own_dg (own_n q0) (10000000 : Int64))), .second, .val (.long (own_dg (own_n q0) (1000000 : Int64))), .second, .val (.long (own_dg (own_n q0) (100000 : Int64))), .second, .val (.long (own_dg (own_n q0) (10000 : Int64))), .second, .val (.long (own_dg (own_n q0) (1000 : Int64))), .second, .val (.long (own_dg (own_n q0) (100 : Int64))), .second, .val (.long (own_dg (own_n q0) (10 : Int64))), .second, .unset, .unset, .unset, .unset] [(.long ((own_n q0) - ((own_n q0) / (10 : Int64)) * (10 : Int64)))]))
  refine own_st (fun _ k => XS.lstore X0.here hx rfl (hb hby at_92) rfl (l' := #[.val (.long q0), .second, .val (.long (own_n q0)), .second, .val (.long (own_dg (own_n q0) (10000000 : Int64))), .second, .val (.long (own_dg (own_n q0) (1000000 : Int64))), .second, .val (.long (own_dg (own_n q0) (100000 : Int64))), .second, .val (.long (own_dg (own_n q0) (10000 : Int64))), .second, .val (.long (own_dg (own_n q0) (1000 : Int64))), .second, .val (.long (own_dg (own_n q0) (100 : Int64))), .second, .val (.long (own_dg (own_n q0) (10 : Int64))), .second, .val (.long ((own_n q0) - ((own_n q0) / (10 : Int64)) * (10 : Int64))), .second, .unset, .unset]) rfl k) ?_
  show own_Go p e below _ (s₁.setTop (mkF m 94 #[.val (.long q0), .second, .val (.long (own_n q0)), .second, .val (.long (own_dg (own_n q0) (10000000 : Int64))), .second, .val (.long (own_dg (own_n q0) (1000000 : Int64))), .second, .val (.long (own_dg (own_n q0) (100000 : Int64))), .second, .val (.long (own_dg (own_n q0) (10000 : Int64))), .second, .val (.long (own_dg (own_n q0) (1000 : Int64))), .second, .val (.long (own_dg (own_n q0) (100 : Int64))), .second, .val (.long (own_dg (own_n q0) (10 : Int64))), .second, .val (.long ((own_n q0) - ((own_n q0) / (10 : Int64)) * (10 : Int64))), .second, .unset, .unset] []))
  show own_Go p e below _ (s₁.setTop (mkF m 94 #[.val (.long q0), .second, .val (.long (own_n q0)), .second, .val (.long (own_dg (own_n q0) (10000000 : Int64))), .second, .val (.long (own_dg (own_n q0) (1000000 : Int64))), .second, .val (.long (own_dg (own_n q0) (100000 : Int64))), .second, .val (.long (own_dg (own_n q0) (10000 : Int64))), .second, .val (.long (own_dg (own_n q0) (1000 : Int64))), .second, .val (.long (own_dg (own_n q0) (100 : Int64))), .second, .val (.long (own_dg (own_n q0) (10 : Int64))), .second, .val (.long (own_rem (own_n q0) (10 : Int64))), .second, .unset, .unset] []))
  refine own_st (fun _ k => XS.lload X0.here hx rfl (hb hby at_94) rfl k) ?_
  show own_Go p e below _ (s₁.setTop (mkF m 96 #[.val (.long q0), .second, .val (.long (own_n q0)), .second, .val (.long (own_dg (own_n q0) (10000000 : Int64))), .second, .val (.long (own_dg (own_n q0) (1000000 : Int64))), .second, .val (.long (own_dg (own_n q0) (100000 : Int64))), .second, .val (.long (own_dg (own_n q0) (10000 : Int64))), .second, .val (.long (own_dg (own_n q0) (1000 : Int64))), .second, .val (.long (own_dg (own_n q0) (100 : Int64))), .second, .val (.long (own_dg (own_n q0) (10 : Int64))), .second, .val (.long (own_rem (own_n q0) (10 : Int64))), .second, .unset, .unset] [(.long (own_dg (own_n q0) (10000000 : Int64)))]))
  refine own_st (fun _ k => XS.lload X0.here hx rfl (hb hby at_96) rfl k) ?_
  show own_Go p e below _ (s₁.setTop (mkF m 98 #[.val (.long q0), .second, .val (.long (own_n q0)), .second, .val (.long (own_dg (own_n q0) (10000000 : Int64))), .second, .val (.long (own_dg (own_n q0) (1000000 : Int64))), .second, .val (.long (own_dg (own_n q0) (100000 : Int64))), .second, .val (.long (own_dg (own_n q0) (10000 : Int64))), .second, .val (.long (own_dg (own_n q0) (1000 : Int64))), .second, .val (.long (own_dg (own_n q0) (100 : Int64))), .second, .val (.long (own_dg (own_n q0) (10 : Int64))), .second, .val (.long (own_rem (own_n q0) (10 : Int64))), .second, .unset, .unset] [(.long (own_dg (own_n q0) (1000000 : Int64))), (.long (own_dg (own_n q0) (10000000 : Int64)))]))
  refine own_st (fun _ k => XS.bipush X0.here hx rfl (hb hby at_98) k) ?_
  show own_Go p e below _ (s₁.setTop (mkF m 100 #[.val (.long q0), .second, .val (.long (own_n q0)), .second, .val (.long (own_dg (own_n q0) (10000000 : Int64))), .second, .val (.long (own_dg (own_n q0) (1000000 : Int64))), .second, .val (.long (own_dg (own_n q0) (100000 : Int64))), .second, .val (.long (own_dg (own_n q0) (10000 : Int64))), .second, .val (.long (own_dg (own_n q0) (1000 : Int64))), .second, .val (.long (own_dg (own_n q0) (100 : Int64))), .second, .val (.long (own_dg (own_n q0) (10 : Int64))), .second, .val (.long (own_rem (own_n q0) (10 : Int64))), .second, .unset, .unset] [(.int (8 : Int32)), (.long (own_dg (own_n q0) (1000000 : Int64))), (.long (own_dg (own_n q0) (10000000 : Int64)))]))
  refine own_st (fun _ k => XS.lshl X0.here hx rfl (hb hby at_100) rfl k) ?_
  show own_Go p e below _ (s₁.setTop (mkF m 101 #[.val (.long q0), .second, .val (.long (own_n q0)), .second, .val (.long (own_dg (own_n q0) (10000000 : Int64))), .second, .val (.long (own_dg (own_n q0) (1000000 : Int64))), .second, .val (.long (own_dg (own_n q0) (100000 : Int64))), .second, .val (.long (own_dg (own_n q0) (10000 : Int64))), .second, .val (.long (own_dg (own_n q0) (1000 : Int64))), .second, .val (.long (own_dg (own_n q0) (100 : Int64))), .second, .val (.long (own_dg (own_n q0) (10 : Int64))), .second, .val (.long (own_rem (own_n q0) (10 : Int64))), .second, .unset, .unset] [(.long ((own_dg (own_n q0) (1000000 : Int64)) <<< ((8 : Int32) &&& 0x3f).toInt64)), (.long (own_dg (own_n q0) (10000000 : Int64)))]))
  refine own_st (fun _ k => XS.lor X0.here hx rfl (hb hby at_101) rfl k) ?_
  show own_Go p e below _ (s₁.setTop (mkF m 102 #[.val (.long q0), .second, .val (.long (own_n q0)), .second, .val (.long (own_dg (own_n q0) (10000000 : Int64))), .second, .val (.long (own_dg (own_n q0) (1000000 : Int64))), .second, .val (.long (own_dg (own_n q0) (100000 : Int64))), .second, .val (.long (own_dg (own_n q0) (10000 : Int64))), .second, .val (.long (own_dg (own_n q0) (1000 : Int64))), .second, .val (.long (own_dg (own_n q0) (100 : Int64))), .second, .val (.long (own_dg (own_n q0) (10 : Int64))), .second, .val (.long (own_rem (own_n q0) (10 : Int64))), .second, .unset, .unset] [(.long ((own_dg (own_n q0) (10000000 : Int64)) ||| ((own_dg (own_n q0) (1000000 : Int64)) <<< ((8 : Int32) &&& 0x3f).toInt64)))]))
  refine own_st (fun _ k => XS.lload X0.here hx rfl (hb hby at_102) rfl k) ?_
  show own_Go p e below _ (s₁.setTop (mkF m 104 #[.val (.long q0), .second, .val (.long (own_n q0)), .second, .val (.long (own_dg (own_n q0) (10000000 : Int64))), .second, .val (.long (own_dg (own_n q0) (1000000 : Int64))), .second, .val (.long (own_dg (own_n q0) (100000 : Int64))), .second, .val (.long (own_dg (own_n q0) (10000 : Int64))), .second, .val (.long (own_dg (own_n q0) (1000 : Int64))), .second, .val (.long (own_dg (own_n q0) (100 : Int64))), .second, .val (.long (own_dg (own_n q0) (10 : Int64))), .second, .val (.long (own_rem (own_n q0) (10 : Int64))), .second, .unset, .unset] [(.long (own_dg (own_n q0) (100000 : Int64))), (.long ((own_dg (own_n q0) (10000000 : Int64)) ||| ((own_dg (own_n q0) (1000000 : Int64)) <<< ((8 : Int32) &&& 0x3f).toInt64)))]))
  refine own_st (fun _ k => XS.bipush X0.here hx rfl (hb hby at_104) k) ?_
  show own_Go p e below _ (s₁.setTop (mkF m 106 #[.val (.long q0), .second, .val (.long (own_n q0)), .second, .val (.long (own_dg (own_n q0) (10000000 : Int64))), .second, .val (.long (own_dg (own_n q0) (1000000 : Int64))), .second, .val (.long (own_dg (own_n q0) (100000 : Int64))), .second, .val (.long (own_dg (own_n q0) (10000 : Int64))), .second, .val (.long (own_dg (own_n q0) (1000 : Int64))), .second, .val (.long (own_dg (own_n q0) (100 : Int64))), .second, .val (.long (own_dg (own_n q0) (10 : Int64))), .second, .val (.long (own_rem (own_n q0) (10 : Int64))), .second, .unset, .unset] [(.int (16 : Int32)), (.long (own_dg (own_n q0) (100000 : Int64))), (.long ((own_dg (own_n q0) (10000000 : Int64)) ||| ((own_dg (own_n q0) (1000000 : Int64)) <<< ((8 : Int32) &&& 0x3f).toInt64)))]))
  refine own_st (fun _ k => XS.lshl X0.here hx rfl (hb hby at_106) rfl k) ?_
  show own_Go p e below _ (s₁.setTop (mkF m 107 #[.val (.long q0), .second, .val (.long (own_n q0)), .second, .val (.long (own_dg (own_n q0) (10000000 : Int64))), .second, .val (.long (own_dg (own_n q0) (1000000 : Int64))), .second, .val (.long (own_dg (own_n q0) (100000 : Int64))), .second, .val (.long (own_dg (own_n q0) (10000 : Int64))), .second, .val (.long (own_dg (own_n q0) (1000 : Int64))), .second, .val (.long (own_dg (own_n q0) (100 : Int64))), .second, .val (.long (own_dg (own_n q0) (10 : Int64))), .second, .val (.long (own_rem (own_n q0) (10 : Int64))), .second, .unset, .unset] [(.long ((own_dg (own_n q0) (100000 : Int64)) <<< ((16 : Int32) &&& 0x3f).toInt64)), (.long ((own_dg (own_n q0) (10000000 : Int64)) ||| ((own_dg (own_n q0) (1000000 : Int64)) <<< ((8 : Int32) &&& 0x3f).toInt64)))]))
  refine own_st (fun _ k => XS.lor X0.here hx rfl (hb hby at_107) rfl k) ?_
  show own_Go p e below _ (s₁.setTop (mkF m 108 #[.val (.long q0), .second, .val (.long (own_n q0)), .second, .val (.long (own_dg (own_n q0) (10000000 : Int64))), .second, .val (.long (own_dg (own_n q0) (1000000 : Int64))), .second, .val (.long (own_dg (own_n q0) (100000 : Int64))), .second, .val (.long (own_dg (own_n q0) (10000 : Int64))), .second, .val (.long (own_dg (own_n q0) (1000 : Int64))), .second, .val (.long (own_dg (own_n q0) (100 : Int64))), .second, .val (.long (own_dg (own_n q0) (10 : Int64))), .second, .val (.long (own_rem (own_n q0) (10 : Int64))), .second, .unset, .unset] [(.long (((own_dg (own_n q0) (10000000 : Int64)) ||| ((own_dg (own_n q0) (1000000 : Int64)) <<< ((8 : Int32) &&& 0x3f).toInt64)) ||| ((own_dg (own_n q0) (100000 : Int64)) <<< ((16 : Int32) &&& 0x3f).toInt64)))]))
  refine own_st (fun _ k => XS.lload X0.here hx rfl (hb hby at_108) rfl k) ?_
  show own_Go p e below _ (s₁.setTop (mkF m 110 #[.val (.long q0), .second, .val (.long (own_n q0)), .second, .val (.long (own_dg (own_n q0) (10000000 : Int64))), .second, .val (.long (own_dg (own_n q0) (1000000 : Int64))), .second, .val (.long (own_dg (own_n q0) (100000 : Int64))), .second, .val (.long (own_dg (own_n q0) (10000 : Int64))), .second, .val (.long (own_dg (own_n q0) (1000 : Int64))), .second, .val (.long (own_dg (own_n q0) (100 : Int64))), .second, .val (.long (own_dg (own_n q0) (10 : Int64))), .second, .val (.long (own_rem (own_n q0) (10 : Int64))), .second, .unset, .unset] [(.long (own_dg (own_n q0) (10000 : Int64))), (.long (((own_dg (own_n q0) (10000000 : Int64)) ||| ((own_dg (own_n q0) (1000000 : Int64)) <<< ((8 : Int32) &&& 0x3f).toInt64)) ||| ((own_dg (own_n q0) (100000 : Int64)) <<< ((16 : Int32) &&& 0x3f).toInt64)))]))
  refine own_st (fun _ k => XS.bipush X0.here hx rfl (hb hby at_110) k) ?_
  show own_Go p e below _ (s₁.setTop (mkF m 112 #[.val (.long q0), .second, .val (.long (own_n q0)), .second, .val (.long (own_dg (own_n q0) (10000000 : Int64))), .second, .val (.long (own_dg (own_n q0) (1000000 : Int64))), .second, .val (.long (own_dg (own_n q0) (100000 : Int64))), .second, .val (.long (own_dg (own_n q0) (10000 : Int64))), .second, .val (.long (own_dg (own_n q0) (1000 : Int64))), .second, .val (.long (own_dg (own_n q0) (100 : Int64))), .second, .val (.long (own_dg (own_n q0) (10 : Int64))), .second, .val (.long (own_rem (own_n q0) (10 : Int64))), .second, .unset, .unset] [(.int (24 : Int32)), (.long (own_dg (own_n q0) (10000 : Int64))), (.long (((own_dg (own_n q0) (10000000 : Int64)) ||| ((own_dg (own_n q0) (1000000 : Int64)) <<< ((8 : Int32) &&& 0x3f).toInt64)) ||| ((own_dg (own_n q0) (100000 : Int64)) <<< ((16 : Int32) &&& 0x3f).toInt64)))]))
  refine own_st (fun _ k => XS.lshl X0.here hx rfl (hb hby at_112) rfl k) ?_
  show own_Go p e below _ (s₁.setTop (mkF m 113 #[.val (.long q0), .second, .val (.long (own_n q0)), .second, .val (.long (own_dg (own_n q0) (10000000 : Int64))), .second, .val (.long (own_dg (own_n q0) (1000000 : Int64))), .second, .val (.long (own_dg (own_n q0) (100000 : Int64))), .second, .val (.long (own_dg (own_n q0) (10000 : Int64))), .second, .val (.long (own_dg (own_n q0) (1000 : Int64))), .second, .val (.long (own_dg (own_n q0) (100 : Int64))), .second, .val (.long (own_dg (own_n q0) (10 : Int64))), .second, .val (.long (own_rem (own_n q0) (10 : Int64))), .second, .unset, .unset] [(.long ((own_dg (own_n q0) (10000 : Int64)) <<< ((24 : Int32) &&& 0x3f).toInt64)), (.long (((own_dg (own_n q0) (10000000 : Int64)) ||| ((own_dg (own_n q0) (1000000 : Int64)) <<< ((8 : Int32) &&& 0x3f).toInt64)) ||| ((own_dg (own_n q0) (100000 : Int64)) <<< ((16 : Int32) &&& 0x3f).toInt64)))]))
  refine own_st (fun _ k => XS.lor X0.here hx rfl (hb hby at_113) rfl k) ?_
  show own_Go p e below _ (s₁.setTop (mkF m 114 #[.val (.long q0), .second, .val (.long (own_n q0)), .second, .val (.long (own_dg (own_n q0) (10000000 : Int64))), .second, .val (.long (own_dg (own_n q0) (1000000 : Int64))), .second, .val (.long (own_dg (own_n q0) (100000 : Int64))), .second, .val (.long (own_dg (own_n q0) (10000 : Int64))), .second, .val (.long (own_dg (own_n q0) (1000 : Int64))), .second, .val (.long (own_dg (own_n q0) (100 : Int64))), .second, .val (.long (own_dg (own_n q0) (10 : Int64))), .second, .val (.long (own_rem (own_n q0) (10 : Int64))), .second, .unset, .unset] [(.long ((((own_dg (own_n q0) (10000000 : Int64)) ||| ((own_dg (own_n q0) (1000000 : Int64)) <<< ((8 : Int32) &&& 0x3f).toInt64)) ||| ((own_dg (own_n q0) (100000 : Int64)) <<< ((16 : Int32) &&& 0x3f).toInt64)) ||| ((own_dg (own_n q0) (10000 : Int64)) <<< ((24 : Int32) &&& 0x3f).toInt64)))]))
  refine own_st (fun _ k => XS.lload X0.here hx rfl (hb hby at_114) rfl k) ?_
  show own_Go p e below _ (s₁.setTop (mkF m 116 #[.val (.long q0), .second, .val (.long (own_n q0)), .second, .val (.long (own_dg (own_n q0) (10000000 : Int64))), .second, .val (.long (own_dg (own_n q0) (1000000 : Int64))), .second, .val (.long (own_dg (own_n q0) (100000 : Int64))), .second, .val (.long (own_dg (own_n q0) (10000 : Int64))), .second, .val (.long (own_dg (own_n q0) (1000 : Int64))), .second, .val (.long (own_dg (own_n q0) (100 : Int64))), .second, .val (.long (own_dg (own_n q0) (10 : Int64))), .second, .val (.long (own_rem (own_n q0) (10 : Int64))), .second, .unset, .unset] [(.long (own_dg (own_n q0) (1000 : Int64))), (.long ((((own_dg (own_n q0) (10000000 : Int64)) ||| ((own_dg (own_n q0) (1000000 : Int64)) <<< ((8 : Int32) &&& 0x3f).toInt64)) ||| ((own_dg (own_n q0) (100000 : Int64)) <<< ((16 : Int32) &&& 0x3f).toInt64)) ||| ((own_dg (own_n q0) (10000 : Int64)) <<< ((24 : Int32) &&& 0x3f).toInt64)))]))
  refine own_st (fun _ k => XS.bipush X0.here hx rfl (hb hby at_116) k) ?_
  show own_Go p e below _ (s₁.setTop (mkF m 118 #[.val (.long q0), .second, .val (.long (own_n q0)), .second, .val (.long (own_dg (own_n q0) (10000000 : Int64))), .second, .val (.long (own_dg (own_n q0) (1000000 : Int64))), .second, .val (.long (own_dg (own_n q0) (100000 : Int64))), .second, .val (.long (own_dg (own_n q0) (10000 : Int64))), .second, .val (.long (own_dg (own_n q0) (1000 : Int64))), .second, .val (.long (own_dg (own_n q0) (100 : Int64))), .second, .val (.long (own_dg (own_n q0) (10 : Int64))), .second, .val (.long (own_rem (own_n q0) (10 : Int64))), .second, .unset, .unset] [(.int (32 : Int32)), (.long (own_dg (own_n q0) (1000 : Int64))), (.long ((((own_dg (own_n q0) (10000000 : Int64)) ||| ((own_dg (own_n q0) (1000000 : Int64)) <<< ((8 : Int32) &&& 0x3f).toInt64)) ||| ((own_dg (own_n q0) (100000 : Int64)) <<< ((16 : Int32) &&& 0x3f).toInt64)) ||| ((own_dg (own_n q0) (10000 : Int64)) <<< ((24 : Int32) &&& 0x3f).toInt64)))]))
  refine own_st (fun _ k => XS.lshl X0.here hx rfl (hb hby at_118) rfl k) ?_
  show own_Go p e below _ (s₁.setTop (mkF m 119 #[.val (.long q0), .second, .val (.long (own_n q0)), .second, .val (.long (own_dg (own_n q0) (10000000 : Int64))), .second, .val (.long (own_dg (own_n q0) (1000000 : Int64))), .second, .val (.long (own_dg (own_n q0) (100000 : Int64))), .second, .val (.long (own_dg (own_n q0) (10000 : Int64))), .second, .val (.long (own_dg (own_n q0) (1000 : Int64))), .second, .val (.long (own_dg (own_n q0) (100 : Int64))), .second, .val (.long (own_dg (own_n q0) (10 : Int64))), .second, .val (.long (own_rem (own_n q0) (10 : Int64))), .second, .unset, .unset] [(.long ((own_dg (own_n q0) (1000 : Int64)) <<< ((32 : Int32) &&& 0x3f).toInt64)), (.long ((((own_dg (own_n q0) (10000000 : Int64)) ||| ((own_dg (own_n q0) (1000000 : Int64)) <<< ((8 : Int32) &&& 0x3f).toInt64)) ||| ((own_dg (own_n q0) (100000 : Int64)) <<< ((16 : Int32) &&& 0x3f).toInt64)) ||| ((own_dg (own_n q0) (10000 : Int64)) <<< ((24 : Int32) &&& 0x3f).toInt64)))]))
  refine own_st (fun _ k => XS.lor X0.here hx rfl (hb hby at_119) rfl k) ?_
  show own_Go p e below _ (s₁.setTop (mkF m 120 #[.val (.long q0), .second, .val (.long (own_n q0)), .second, .val (.long (own_dg (own_n q0) (10000000 : Int64))), .second, .val (.long (own_dg (own_n q0) (1000000 : Int64))), .second, .val (.long (own_dg (own_n q0) (100000 : Int64))), .second, .val (.long (own_dg (own_n q0) (10000 : Int64))), .second, .val (.long (own_dg (own_n q0) (1000 : Int64))), .second, .val (.long (own_dg (own_n q0) (100 : Int64))), .second, .val (.long (own_dg (own_n q0) (10 : Int64))), .second, .val (.long (own_rem (own_n q0) (10 : Int64))), .second, .unset, .unset] [(.long (((((own_dg (own_n q0) (10000000 : Int64)) ||| ((own_dg (own_n q0) (1000000 : Int64)) <<< ((8 : Int32) &&& 0x3f).toInt64)) ||| ((own_dg (own_n q0) (100000 : Int64)) <<< ((16 : Int32) &&& 0x3f).toInt64)) ||| ((own_dg (own_n q0) (10000 : Int64)) <<< ((24 : Int32) &&& 0x3f).toInt64)) ||| ((own_dg (own_n q0) (1000 : Int64)) <<< ((32 : Int32) &&& 0x3f).toInt64)))]))
  refine own_st (fun _ k => XS.lload X0.here hx rfl (hb hby at_120) rfl k) ?_
  show own_Go p e below _ (s₁.setTop (mkF m 122 #[.val (.long q0), .second, .val (.long (own_n q0)), .second, .val (.long (own_dg (own_n q0) (10000000 : Int64))), .second, .val (.long (own_dg (own_n q0) (1000000 : Int64))), .second, .val (.long (own_dg (own_n q0) (100000 : Int64))), .second, .val (.long (own_dg (own_n q0) (10000 : Int64))), .second, .val (.long (own_dg (own_n q0) (1000 : Int64))), .second, .val (.long (own_dg (own_n q0) (100 : Int64))), .second, .val (.long (own_dg (own_n q0) (10 : Int64))), .second, .val (.long (own_rem (own_n q0) (10 : Int64))), .second, .unset, .unset] [(.long (own_dg (own_n q0) (100 : Int64))), (.long (((((own_dg (own_n q0) (10000000 : Int64)) ||| ((own_dg (own_n q0) (1000000 : Int64)) <<< ((8 : Int32) &&& 0x3f).toInt64)) ||| ((own_dg (own_n q0) (100000 : Int64)) <<< ((16 : Int32) &&& 0x3f).toInt64)) ||| ((own_dg (own_n q0) (10000 : Int64)) <<< ((24 : Int32) &&& 0x3f).toInt64)) ||| ((own_dg (own_n q0) (1000 : Int64)) <<< ((32 : Int32) &&& 0x3f).toInt64)))]))
  refine own_st (fun _ k => XS.bipush X0.here hx rfl (hb hby at_122) k) ?_
  show own_Go p e below _ (s₁.setTop (mkF m 124 #[.val (.long q0), .second, .val (.long (own_n q0)), .second, .val (.long (own_dg (own_n q0) (10000000 : Int64))), .second, .val (.long (own_dg (own_n q0) (1000000 : Int64))), .second, .val (.long (own_dg (own_n q0) (100000 : Int64))), .second, .val (.long (own_dg (own_n q0) (10000 : Int64))), .second, .val (.long (own_dg (own_n q0) (1000 : Int64))), .second, .val (.long (own_dg (own_n q0) (100 : Int64))), .second, .val (.long (own_dg (own_n q0) (10 : Int64))), .second, .val (.long (own_rem (own_n q0) (10 : Int64))), .second, .unset, .unset] [(.int (40 : Int32)), (.long (own_dg (own_n q0) (100 : Int64))), (.long (((((own_dg (own_n q0) (10000000 : Int64)) ||| ((own_dg (own_n q0) (1000000 : Int64)) <<< ((8 : Int32) &&& 0x3f).toInt64)) ||| ((own_dg (own_n q0) (100000 : Int64)) <<< ((16 : Int32) &&& 0x3f).toInt64)) ||| ((own_dg (own_n q0) (10000 : Int64)) <<< ((24 : Int32) &&& 0x3f).toInt64)) ||| ((own_dg (own_n q0) (1000 : Int64)) <<< ((32 : Int32) &&& 0x3f).toInt64)))]))
  refine own_st (fun _ k => XS.lshl X0.here hx rfl (hb hby at_124) rfl k) ?_
  show own_Go p e below _ (s₁.setTop (mkF m 125 #[.val (.long q0), .second, .val (.long (own_n q0)), .second, .val (.long (own_dg (own_n q0) (10000000 : Int64))), .second, .val (.long (own_dg (own_n q0) (1000000 : Int64))), .second, .val (.long (own_dg (own_n q0) (100000 : Int64))), .second, .val (.long (own_dg (own_n q0) (10000 : Int64))), .second, .val (.long (own_dg (own_n q0) (1000 : Int64))), .second, .val (.long (own_dg (own_n q0) (100 : Int64))), .second, .val (.long (own_dg (own_n q0) (10 : Int64))), .second, .val (.long (own_rem (own_n q0) (10 : Int64))), .second, .unset, .unset] [(.long ((own_dg (own_n q0) (100 : Int64)) <<< ((40 : Int32) &&& 0x3f).toInt64)), (.long (((((own_dg (own_n q0) (10000000 : Int64)) ||| ((own_dg (own_n q0) (1000000 : Int64)) <<< ((8 : Int32) &&& 0x3f).toInt64)) ||| ((own_dg (own_n q0) (100000 : Int64)) <<< ((16 : Int32) &&& 0x3f).toInt64)) ||| ((own_dg (own_n q0) (10000 : Int64)) <<< ((24 : Int32) &&& 0x3f).toInt64)) ||| ((own_dg (own_n q0) (1000 : Int64)) <<< ((32 : Int32) &&& 0x3f).toInt64)))]))
  refine own_st (fun _ k => XS.lor X0.here hx rfl (hb hby at_125) rfl k) ?_
  show own_Go p e below _ (s₁.setTop (mkF m 126 #[.val (.long q0), .second, .val (.long (own_n q0)), .second, .val (.long (own_dg (own_n q0) (10000000 : Int64))), .second, .val (.long (own_dg (own_n q0) (1000000 : Int64))), .second, .val (.long (own_dg (own_n q0) (100000 : Int64))), .second, .val (.long (own_dg (own_n q0) (10000 : Int64))), .second, .val (.long (own_dg (own_n q0) (1000 : Int64))), .second, .val (.long (own_dg (own_n q0) (100 : Int64))), .second, .val (.long (own_dg (own_n q0) (10 : Int64))), .second, .val (.long (own_rem (own_n q0) (10 : Int64))), .second, .unset, .unset] [(.long ((((((own_dg (own_n q0) (10000000 : Int64)) ||| ((own_dg (own_n q0) (1000000 : Int64)) <<< ((8 : Int32) &&& 0x3f).toInt64)) ||| ((own_dg (own_n q0) (100000 : Int64)) <<< ((16 : Int32) &&& 0x3f).toInt64)) ||| ((own_dg (own_n q0) (10000 : Int64)) <<< ((24 : Int32) &&& 0x3f).toInt64)) ||| ((own_dg (own_n q0) (1000 : Int64)) <<< ((32 : Int32) &&& 0x3f).toInt64)) ||| ((own_dg (own_n q0) (100 : Int64)) <<< ((40 : Int32) &&& 0x3f).toInt64)))]))
  refine own_st (fun _ k => XS.lload X0.here hx rfl (hb hby at_126) rfl k) ?_
  show own_Go p e below _ (s₁.setTop (mkF m 128 #[.val (.long q0), .second, .val (.long (own_n q0)), .second, .val (.long (own_dg (own_n q0) (10000000 : Int64))), .second, .val (.long (own_dg (own_n q0) (1000000 : Int64))), .second, .val (.long (own_dg (own_n q0) (100000 : Int64))), .second, .val (.long (own_dg (own_n q0) (10000 : Int64))), .second, .val (.long (own_dg (own_n q0) (1000 : Int64))), .second, .val (.long (own_dg (own_n q0) (100 : Int64))), .second, .val (.long (own_dg (own_n q0) (10 : Int64))), .second, .val (.long (own_rem (own_n q0) (10 : Int64))), .second, .unset, .unset] [(.long (own_dg (own_n q0) (10 : Int64))), (.long ((((((own_dg (own_n q0) (10000000 : Int64)) ||| ((own_dg (own_n q0) (1000000 : Int64)) <<< ((8 : Int32) &&& 0x3f).toInt64)) ||| ((own_dg (own_n q0) (100000 : Int64)) <<< ((16 : Int32) &&& 0x3f).toInt64)) ||| ((own_dg (own_n q0) (10000 : Int64)) <<< ((24 : Int32) &&& 0x3f).toInt64)) ||| ((own_dg (own_n q0) (1000 : Int64)) <<< ((32 : Int32) &&& 0x3f).toInt64)) ||| ((own_dg (own_n q0) (100 : Int64)) <<< ((40 : Int32) &&& 0x3f).toInt64)))]))
  refine own_st (fun _ k => XS.bipush X0.here hx rfl (hb hby at_128) k) ?_
  show own_Go p e below _ (s₁.setTop (mkF m 130 #[.val (.long q0), .second, .val (.long (own_n q0)), .second, .val (.long (own_dg (own_n q0) (10000000 : Int64))), .second, .val (.long (own_dg (own_n q0) (1000000 : Int64))), .second, .val (.long (own_dg (own_n q0) (100000 : Int64))), .second, .val (.long (own_dg (own_n q0) (10000 : Int64))), .second, .val (.long (own_dg (own_n q0) (1000 : Int64))), .second, .val (.long (own_dg (own_n q0) (100 : Int64))), .second, .val (.long (own_dg (own_n q0) (10 : Int64))), .second, .val (.long (own_rem (own_n q0) (10 : Int64))), .second, .unset, .unset] [(.int (48 : Int32)), (.long (own_dg (own_n q0) (10 : Int64))), (.long ((((((own_dg (own_n q0) (10000000 : Int64)) ||| ((own_dg (own_n q0) (1000000 : Int64)) <<< ((8 : Int32) &&& 0x3f).toInt64)) ||| ((own_dg (own_n q0) (100000 : Int64)) <<< ((16 : Int32) &&& 0x3f).toInt64)) ||| ((own_dg (own_n q0) (10000 : Int64)) <<< ((24 : Int32) &&& 0x3f).toInt64)) ||| ((own_dg (own_n q0) (1000 : Int64)) <<< ((32 : Int32) &&& 0x3f).toInt64)) ||| ((own_dg (own_n q0) (100 : Int64)) <<< ((40 : Int32) &&& 0x3f).toInt64)))]))
  refine own_st (fun _ k => XS.lshl X0.here hx rfl (hb hby at_130) rfl k) ?_
  show own_Go p e below _ (s₁.setTop (mkF m 131 #[.val (.long q0), .second, .val (.long (own_n q0)), .second, .val (.long (own_dg (own_n q0) (10000000 : Int64))), .second, .val (.long (own_dg (own_n q0) (1000000 : Int64))), .second, .val (.long (own_dg (own_n q0) (100000 : Int64))), .second, .val (.long (own_dg (own_n q0) (10000 : Int64))), .second, .val (.long (own_dg (own_n q0) (1000 : Int64))), .second, .val (.long (own_dg (own_n q0) (100 : Int64))), .second, .val (.long (own_dg (own_n q0) (10 : Int64))), .second, .val (.long (own_rem (own_n q0) (10 : Int64))), .second, .unset, .unset] [(.long ((own_dg (own_n q0) (10 : Int64)) <<< ((48 : Int32) &&& 0x3f).toInt64)), (.long ((((((own_dg (own_n q0) (10000000 : Int64)) ||| ((own_dg (own_n q0) (1000000 : Int64)) <<< ((8 : Int32) &&& 0x3f).toInt64)) ||| ((own_dg (own_n q0) (100000 : Int64)) <<< ((16 : Int32) &&& 0x3f).toInt64)) ||| ((own_dg (own_n q0) (10000 : Int64)) <<< ((24 : Int32) &&& 0x3f).toInt64)) ||| ((own_dg (own_n q0) (1000 : Int64)) <<< ((32 : Int32) &&& 0x3f).toInt64)) ||| ((own_dg (own_n q0) (100 : Int64)) <<< ((40 : Int32) &&& 0x3f).toInt64)))]))
  refine own_st (fun _ k => XS.lor X0.here hx rfl (hb hby at_131) rfl k) ?_
  show own_Go p e below _ (s₁.setTop (mkF m 132 #[.val (.long q0), .second, .val (.long (own_n q0)), .second, .val (.long (own_dg (own_n q0) (10000000 : Int64))), .second, .val (.long (own_dg (own_n q0) (1000000 : Int64))), .second, .val (.long (own_dg (own_n q0) (100000 : Int64))), .second, .val (.long (own_dg (own_n q0) (10000 : Int64))), .second, .val (.long (own_dg (own_n q0) (1000 : Int64))), .second, .val (.long (own_dg (own_n q0) (100 : Int64))), .second, .val (.long (own_dg (own_n q0) (10 : Int64))), .second, .val (.long (own_rem (own_n q0) (10 : Int64))), .second, .unset, .unset] [(.long (((((((own_dg (own_n q0) (10000000 : Int64)) ||| ((own_dg (own_n q0) (1000000 : Int64)) <<< ((8 : Int32) &&& 0x3f).toInt64)) ||| ((own_dg (own_n q0) (100000 : Int64)) <<< ((16 : Int32) &&& 0x3f).toInt64)) ||| ((own_dg (own_n q0) (10000 : Int64)) <<< ((24 : Int32) &&& 0x3f).toInt64)) ||| ((own_dg (own_n q0) (1000 : Int64)) <<< ((32 : Int32) &&& 0x3f).toInt64)) ||| ((own_dg (own_n q0) (100 : Int64)) <<< ((40 : Int32) &&& 0x3f).toInt64)) ||| ((own_dg (own_n q0) (10 : Int64)) <<< ((48 : Int32) &&& 0x3f).toInt64)))]))
  refine own_st (fun _ k => XS.lload X0.here hx rfl (hb hby at_132) rfl k) ?_
  show own_Go p e below _ (s₁.setTop (mkF m 134 #[.val (.long q0), .second, .val (.long (own_n q0)), .second, .val (.long (own_dg (own_n q0) (10000000 : Int64))), .second, .val (.long (own_dg (own_n q0) (1000000 : Int64))), .second, .val (.long (own_dg (own_n q0) (100000 : Int64))), .second, .val (.long (own_dg (own_n q0) (10000 : Int64))), .second, .val (.long (own_dg (own_n q0) (1000 : Int64))), .second, .val (.long (own_dg (own_n q0) (100 : Int64))), .second, .val (.long (own_dg (own_n q0) (10 : Int64))), .second, .val (.long (own_rem (own_n q0) (10 : Int64))), .second, .unset, .unset] [(.long (own_rem (own_n q0) (10 : Int64))), (.long (((((((own_dg (own_n q0) (10000000 : Int64)) ||| ((own_dg (own_n q0) (1000000 : Int64)) <<< ((8 : Int32) &&& 0x3f).toInt64)) ||| ((own_dg (own_n q0) (100000 : Int64)) <<< ((16 : Int32) &&& 0x3f).toInt64)) ||| ((own_dg (own_n q0) (10000 : Int64)) <<< ((24 : Int32) &&& 0x3f).toInt64)) ||| ((own_dg (own_n q0) (1000 : Int64)) <<< ((32 : Int32) &&& 0x3f).toInt64)) ||| ((own_dg (own_n q0) (100 : Int64)) <<< ((40 : Int32) &&& 0x3f).toInt64)) ||| ((own_dg (own_n q0) (10 : Int64)) <<< ((48 : Int32) &&& 0x3f).toInt64)))]))
  refine own_st (fun _ k => XS.bipush X0.here hx rfl (hb hby at_134) k) ?_
  show own_Go p e below _ (s₁.setTop (mkF m 136 #[.val (.long q0), .second, .val (.long (own_n q0)), .second, .val (.long (own_dg (own_n q0) (10000000 : Int64))), .second, .val (.long (own_dg (own_n q0) (1000000 : Int64))), .second, .val (.long (own_dg (own_n q0) (100000 : Int64))), .second, .val (.long (own_dg (own_n q0) (10000 : Int64))), .second, .val (.long (own_dg (own_n q0) (1000 : Int64))), .second, .val (.long (own_dg (own_n q0) (100 : Int64))), .second, .val (.long (own_dg (own_n q0) (10 : Int64))), .second, .val (.long (own_rem (own_n q0) (10 : Int64))), .second, .unset, .unset] [(.int (56 : Int32)), (.long (own_rem (own_n q0) (10 : Int64))), (.long (((((((own_dg (own_n q0) (10000000 : Int64)) ||| ((own_dg (own_n q0) (1000000 : Int64)) <<< ((8 : Int32) &&& 0x3f).toInt64)) ||| ((own_dg (own_n q0) (100000 : Int64)) <<< ((16 : Int32) &&& 0x3f).toInt64)) ||| ((own_dg (own_n q0) (10000 : Int64)) <<< ((24 : Int32) &&& 0x3f).toInt64)) ||| ((own_dg (own_n q0) (1000 : Int64)) <<< ((32 : Int32) &&& 0x3f).toInt64)) ||| ((own_dg (own_n q0) (100 : Int64)) <<< ((40 : Int32) &&& 0x3f).toInt64)) ||| ((own_dg (own_n q0) (10 : Int64)) <<< ((48 : Int32) &&& 0x3f).toInt64)))]))
  refine own_st (fun _ k => XS.lshl X0.here hx rfl (hb hby at_136) rfl k) ?_
  show own_Go p e below _ (s₁.setTop (mkF m 137 #[.val (.long q0), .second, .val (.long (own_n q0)), .second, .val (.long (own_dg (own_n q0) (10000000 : Int64))), .second, .val (.long (own_dg (own_n q0) (1000000 : Int64))), .second, .val (.long (own_dg (own_n q0) (100000 : Int64))), .second, .val (.long (own_dg (own_n q0) (10000 : Int64))), .second, .val (.long (own_dg (own_n q0) (1000 : Int64))), .second, .val (.long (own_dg (own_n q0) (100 : Int64))), .second, .val (.long (own_dg (own_n q0) (10 : Int64))), .second, .val (.long (own_rem (own_n q0) (10 : Int64))), .second, .unset, .unset] [(.long ((own_rem (own_n q0) (10 : Int64)) <<< ((56 : Int32) &&& 0x3f).toInt64)), (.long (((((((own_dg (own_n q0) (10000000 : Int64)) ||| ((own_dg (own_n q0) (1000000 : Int64)) <<< ((8 : Int32) &&& 0x3f).toInt64)) ||| ((own_dg (own_n q0) (100000 : Int64)) <<< ((16 : Int32) &&& 0x3f).toInt64)) ||| ((own_dg (own_n q0) (10000 : Int64)) <<< ((24 : Int32) &&& 0x3f).toInt64)) ||| ((own_dg (own_n q0) (1000 : Int64)) <<< ((32 : Int32) &&& 0x3f).toInt64)) ||| ((own_dg (own_n q0) (100 : Int64)) <<< ((40 : Int32) &&& 0x3f).toInt64)) ||| ((own_dg (own_n q0) (10 : Int64)) <<< ((48 : Int32) &&& 0x3f).toInt64)))]))
  refine own_st (fun _ k => XS.lor X0.here hx rfl (hb hby at_137) rfl k) ?_
  show own_Go p e below _ (s₁.setTop (mkF m 138 #[.val (.long q0), .second, .val (.long (own_n q0)), .second, .val (.long (own_dg (own_n q0) (10000000 : Int64))), .second, .val (.long (own_dg (own_n q0) (1000000 : Int64))), .second, .val (.long (own_dg (own_n q0) (100000 : Int64))), .second, .val (.long (own_dg (own_n q0) (10000 : Int64))), .second, .val (.long (own_dg (own_n q0) (1000 : Int64))), .second, .val (.long (own_dg (own_n q0) (100 : Int64))), .second, .val (.long (own_dg (own_n q0) (10 : Int64))), .second, .val (.long (own_rem (own_n q0) (10 : Int64))), .second, .unset, .unset] [(.long ((((((((own_dg (own_n q0) (10000000 : Int64)) ||| ((own_dg (own_n q0) (1000000 : Int64)) <<< ((8 : Int32) &&& 0x3f).toInt64)) ||| ((own_dg (own_n q0) (100000 : Int64)) <<< ((16 : Int32) &&& 0x3f).toInt64)) ||| ((own_dg (own_n q0) (10000 : Int64)) <<< ((24 : Int32) &&& 0x3f).toInt64)) ||| ((own_dg (own_n q0) (1000 : Int64)) <<< ((32 : Int32) &&& 0x3f).toInt64)) ||| ((own_dg (own_n q0) (100 : Int64)) <<< ((40 : Int32) &&& 0x3f).toInt64)) ||| ((own_dg (own_n q0) (10 : Int64)) <<< ((48 : Int32) &&& 0x3f).toInt64)) ||| ((own_rem (own_n q0) (10 : Int64)) <<< ((56 : Int32) &&& 0x3f).toInt64)))]))
  refine own_st (fun _ k => XS.lstore X0.here hx rfl (hb hby at_138) rfl (l' := #[.val (.long q0), .second, .val (.long (own_n q0)), .second, .val (.long (own_dg (own_n q0) (10000000 : Int64))), .second, .val (.long (own_dg (own_n q0) (1000000 : Int64))), .second, .val (.long (own_dg (own_n q0) (100000 : Int64))), .second, .val (.long (own_dg (own_n q0) (10000 : Int64))), .second, .val (.long (own_dg (own_n q0) (1000 : Int64))), .second, .val (.long (own_dg (own_n q0) (100 : Int64))), .second, .val (.long (own_dg (own_n q0) (10 : Int64))), .second, .val (.long (own_rem (own_n q0) (10 : Int64))), .second, .val (.long ((((((((own_dg (own_n q0) (10000000 : Int64)) ||| ((own_dg (own_n q0) (1000000 : Int64)) <<< ((8 : Int32) &&& 0x3f).toInt64)) ||| ((own_dg (own_n q0) (100000 : Int64)) <<< ((16 : Int32) &&& 0x3f).toInt64)) ||| ((own_dg (own_n q0) (10000 : Int64)) <<< ((24 : Int32) &&& 0x3f).toInt64)) ||| ((own_dg (own_n q0) (1000 : Int64)) <<< ((32 : Int32) &&& 0x3f).toInt64)) ||| ((own_dg (own_n q0) (100 : Int64)) <<< ((40 : Int32) &&& 0x3f).toInt64)) ||| ((own_dg (own_n q0) (10 : Int64)) <<< ((48 : Int32) &&& 0x3f).toInt64)) ||| ((own_rem (own_n q0) (10 : Int64)) <<< ((56 : Int32) &&& 0x3f).toInt64))), .second]) rfl k) ?_
  show own_Go p e below _ (s₁.setTop (mkF m 140 #[.val (.long q0), .second, .val (.long (own_n q0)), .second, .val (.long (own_dg (own_n q0) (10000000 : Int64))), .second, .val (.long (own_dg (own_n q0) (1000000 : Int64))), .second, .val (.long (own_dg (own_n q0) (100000 : Int64))), .second, .val (.long (own_dg (own_n q0) (10000 : Int64))), .second, .val (.long (own_dg (own_n q0) (1000 : Int64))), .second, .val (.long (own_dg (own_n q0) (100 : Int64))), .second, .val (.long (own_dg (own_n q0) (10 : Int64))), .second, .val (.long (own_rem (own_n q0) (10 : Int64))), .second, .val (.long ((((((((own_dg (own_n q0) (10000000 : Int64)) ||| ((own_dg (own_n q0) (1000000 : Int64)) <<< ((8 : Int32) &&& 0x3f).toInt64)) ||| ((own_dg (own_n q0) (100000 : Int64)) <<< ((16 : Int32) &&& 0x3f).toInt64)) ||| ((own_dg (own_n q0) (10000 : Int64)) <<< ((24 : Int32) &&& 0x3f).toInt64)) ||| ((own_dg (own_n q0) (1000 : Int64)) <<< ((32 : Int32) &&& 0x3f).toInt64)) ||| ((own_dg (own_n q0) (100 : Int64)) <<< ((40 : Int32) &&& 0x3f).toInt64)) ||| ((own_dg (own_n q0) (10 : Int64)) <<< ((48 : Int32) &&& 0x3f).toInt64)) ||| ((own_rem (own_n q0) (10 : Int64)) <<< ((56 : Int32) &&& 0x3f).toInt64))), .second] []))
  show own_Go p e below _ (s₁.setTop (mkF m 140 #[.val (.long q0), .second, .val (.long (own_n q0)), .second, .val (.long (own_dg (own_n q0) (10000000 : Int64))), .second, .val (.long (own_dg (own_n q0) (1000000 : Int64))), .second, .val (.long (own_dg (own_n q0) (100000 : Int64))), .second, .val (.long (own_dg (own_n q0) (10000 : Int64))), .second, .val (.long (own_dg (own_n q0) (1000 : Int64))), .second, .val (.long (own_dg (own_n q0) (100 : Int64))), .second, .val (.long (own_dg (own_n q0) (10 : Int64))), .second, .val (.long (own_rem (own_n q0) (10 : Int64))), .second, .val (.long (own_vals (own_n q0))), .second] []))
  refine own_st (fun _ k => XS.lload X0.here hx rfl (hb hby at_140) rfl k) ?_
  show own_Go p e below _ (s₁.setTop (mkF m 142 #[.val (.long q0), .second, .val (.long (own_n q0)), .second, .val (.long (own_dg (own_n q0) (10000000 : Int64))), .second, .val (.long (own_dg (own_n q0) (1000000 : Int64))), .second, .val (.long (own_dg (own_n q0) (100000 : Int64))), .second, .val (.long (own_dg (own_n q0) (10000 : Int64))), .second, .val (.long (own_dg (own_n q0) (1000 : Int64))), .second, .val (.long (own_dg (own_n q0) (100 : Int64))), .second, .val (.long (own_dg (own_n q0) (10 : Int64))), .second, .val (.long (own_rem (own_n q0) (10 : Int64))), .second, .val (.long (own_vals (own_n q0))), .second] [(.long (own_vals (own_n q0)))]))
  obtain ⟨_, T1, _, X1, ⟨rfl, rfl, e1⟩, st1⟩ := own_callS X0 hx hZ (y := (⟨"com/example/stratum_codecs/stratumcodecs/TextFormat", "chunk", "(J)J"⟩ : MethodName)) (argsL := [(.long (own_vals (own_n q0)))]) (rest := []) (W := 0) (g := (mkF m 142 #[.val (.long q0), .second, .val (.long (own_n q0)), .second, .val (.long (own_dg (own_n q0) (10000000 : Int64))), .second, .val (.long (own_dg (own_n q0) (1000000 : Int64))), .second, .val (.long (own_dg (own_n q0) (100000 : Int64))), .second, .val (.long (own_dg (own_n q0) (10000 : Int64))), .second, .val (.long (own_dg (own_n q0) (1000 : Int64))), .second, .val (.long (own_dg (own_n q0) (100 : Int64))), .second, .val (.long (own_dg (own_n q0) (10 : Int64))), .second, .val (.long (own_rem (own_n q0) (10 : Int64))), .second, .val (.long (own_vals (own_n q0))), .second] [(.long (own_vals (own_n q0)))])) (rm1 l Z tA hw (own_vals (own_n q0)) h0) hown (hw _ (List.mem_of_getElem? (i := 9) rfl)) (hw _ (List.mem_of_getElem? (i := 10) rfl)) (hw _ (List.mem_of_getElem? (i := 11) rfl)) (hw _ (List.mem_of_getElem? (i := 12) rfl)) (by decide) e0 rfl (by rw [hml]; rfl) pd_0 rfl rfl (by show 2 * 0 + _ ≤ _; exact Nat.le_of_eq rfl) (hb hby at_142) (by decide) (by decide) (by decide) (by decide)
  replace X1 := own_flat X1
  refine own_st st1 ?_
  show own_Go p e below _ (T1.setTop (mkF m 145 #[.val (.long q0), .second, .val (.long (own_n q0)), .second, .val (.long (own_dg (own_n q0) (10000000 : Int64))), .second, .val (.long (own_dg (own_n q0) (1000000 : Int64))), .second, .val (.long (own_dg (own_n q0) (100000 : Int64))), .second, .val (.long (own_dg (own_n q0) (10000 : Int64))), .second, .val (.long (own_dg (own_n q0) (1000 : Int64))), .second, .val (.long (own_dg (own_n q0) (100 : Int64))), .second, .val (.long (own_dg (own_n q0) (10 : Int64))), .second, .val (.long (own_rem (own_n q0) (10 : Int64))), .second, .val (.long (own_vals (own_n q0))), .second] [(.long (own_chunk (own_vals (own_n q0))))]))
  refine own_st (fun _ k => XS.lloadN X1.here hx rfl (hb hby at_145) rfl k) ?_
  show own_Go p e below _ (T1.setTop (mkF m 146 #[.val (.long q0), .second, .val (.long (own_n q0)), .second, .val (.long (own_dg (own_n q0) (10000000 : Int64))), .second, .val (.long (own_dg (own_n q0) (1000000 : Int64))), .second, .val (.long (own_dg (own_n q0) (100000 : Int64))), .second, .val (.long (own_dg (own_n q0) (10000 : Int64))), .second, .val (.long (own_dg (own_n q0) (1000 : Int64))), .second, .val (.long (own_dg (own_n q0) (100 : Int64))), .second, .val (.long (own_dg (own_n q0) (10 : Int64))), .second, .val (.long (own_rem (own_n q0) (10 : Int64))), .second, .val (.long (own_vals (own_n q0))), .second] [(.long (own_n q0)), (.long (own_chunk (own_vals (own_n q0))))]))
  refine own_st (fun _ k => XS.lcmp X1.here hx rfl (hb hby at_146) rfl k) ?_
  show own_Go p e below _ (T1.setTop (mkF m 147 #[.val (.long q0), .second, .val (.long (own_n q0)), .second, .val (.long (own_dg (own_n q0) (10000000 : Int64))), .second, .val (.long (own_dg (own_n q0) (1000000 : Int64))), .second, .val (.long (own_dg (own_n q0) (100000 : Int64))), .second, .val (.long (own_dg (own_n q0) (10000 : Int64))), .second, .val (.long (own_dg (own_n q0) (1000 : Int64))), .second, .val (.long (own_dg (own_n q0) (100 : Int64))), .second, .val (.long (own_dg (own_n q0) (10 : Int64))), .second, .val (.long (own_rem (own_n q0) (10 : Int64))), .second, .val (.long (own_vals (own_n q0))), .second] [(.int (lcmpW (own_chunk (own_vals (own_n q0))) (own_n q0)))]))
  refine own_st (fun _ k => XS.ifNo X1.here hx rfl (hb hby at_147) rfl ((own_l0 _ _ _).trans (own_nyes (own_law q0))) k) ?_
  show own_Go p e below _ (T1.setTop (mkF m 150 #[.val (.long q0), .second, .val (.long (own_n q0)), .second, .val (.long (own_dg (own_n q0) (10000000 : Int64))), .second, .val (.long (own_dg (own_n q0) (1000000 : Int64))), .second, .val (.long (own_dg (own_n q0) (100000 : Int64))), .second, .val (.long (own_dg (own_n q0) (10000 : Int64))), .second, .val (.long (own_dg (own_n q0) (1000 : Int64))), .second, .val (.long (own_dg (own_n q0) (100 : Int64))), .second, .val (.long (own_dg (own_n q0) (10 : Int64))), .second, .val (.long (own_rem (own_n q0) (10 : Int64))), .second, .val (.long (own_vals (own_n q0))), .second] []))
  refine own_st (fun _ k => XS.iconst X1.here hx rfl (hb hby at_150) k) ?_
  show own_Go p e below _ (T1.setTop (mkF m 151 #[.val (.long q0), .second, .val (.long (own_n q0)), .second, .val (.long (own_dg (own_n q0) (10000000 : Int64))), .second, .val (.long (own_dg (own_n q0) (1000000 : Int64))), .second, .val (.long (own_dg (own_n q0) (100000 : Int64))), .second, .val (.long (own_dg (own_n q0) (10000 : Int64))), .second, .val (.long (own_dg (own_n q0) (1000 : Int64))), .second, .val (.long (own_dg (own_n q0) (100 : Int64))), .second, .val (.long (own_dg (own_n q0) (10 : Int64))), .second, .val (.long (own_rem (own_n q0) (10 : Int64))), .second, .val (.long (own_vals (own_n q0))), .second] [(.int (1 : Int32))]))
  refine own_st (fun _ k => XS.goto X1.here hx rfl (pc0 := 151) (pc' := 155) rfl (hb hby at_151) (by decide) (by decide) k) ?_
  show own_Go p e below _ (T1.setTop (mkF m 155 #[.val (.long q0), .second, .val (.long (own_n q0)), .second, .val (.long (own_dg (own_n q0) (10000000 : Int64))), .second, .val (.long (own_dg (own_n q0) (1000000 : Int64))), .second, .val (.long (own_dg (own_n q0) (100000 : Int64))), .second, .val (.long (own_dg (own_n q0) (10000 : Int64))), .second, .val (.long (own_dg (own_n q0) (1000 : Int64))), .second, .val (.long (own_dg (own_n q0) (100 : Int64))), .second, .val (.long (own_dg (own_n q0) (10 : Int64))), .second, .val (.long (own_rem (own_n q0) (10 : Int64))), .second, .val (.long (own_vals (own_n q0))), .second] [(.int (1 : Int32))]))
  exact own_retZ X1 hx hlk hret rfl (hb hby at_155) ⟨rfl, N0⟩ (by decide) (by decide)
set_option maxRecDepth 65536 in
set_option maxHeartbeats 40000000 in
theorem comes_1 {Post : Tables → Env → Array Value → State → Outcome → State → Prop} (hpost : ∀ tb e args s v u, (limb_1_1.after args s (.returned v) u = true ∧ limb_1_2.after args s (.returned v) u = true ∧ True) → FrameEnd s (.returned v) u (Jvm.fieldLocs frame_1_writes args s ++ Jvm.arrayLocs frame_1_arrays args s ++ Jvm.staticLocs frame_1_statics s) 0 0 → Post tb e args s (.returned v) u) :
    ArmFor flags0 classFile x code maxLocals ret World_1 tables_1 room_1 Calls_1 rest_1 Pre_1 Post := by
  intro l hfl _ _ p e ha hc hk s m args below hf hA hF happ hP
  obtain ⟨hcalls, hrest, hpre⟩ := hP
  obtain ⟨-, -, -, hnamed, -, -, -, hat⟩ := (Spec.applies_iff hf).mp happ
  obtain ⟨hg, hn⟩ := and_e (Cond.before_iff.mp (show (Jvm.Cond.and given_1 narrow_1).before args s = true from hpre))
  obtain ⟨g1, g2⟩ := and_e hg
  obtain ⟨w0, rfl⟩ : ∃ w0 : Value, args = #[w0] := by
    have hs : args.size = 1 := by simpa [Cond.value, given_1] using g1
    obtain ⟨L⟩ := args
    match L, hs with
    | [w0], _ => exact ⟨w0, rfl⟩
  have hw := fun d (hd : d ∈ tables_1) => atoms_spec (ws := Jvm.Cond.code x code maxLocals ret :: tables_1) hat d (List.mem_cons_of_mem _ hd)
  obtain ⟨i0, ei0⟩ := isL_v g2
  obtain rfl : w0 = (.long i0) := Option.some.inj ei0
  obtain ⟨n, o, h1, h2, h3, _, L, rfl, ⟨rfl, N⟩, hq⟩ := rm0 l s _ hw i0 s.heap s.heap.size (Nat.le_refl _) p e ha hc hk s m _ below hf ((Spec.applies_iff_loose hf).mp happ).1 ⟨rfl, State.Warmed39.refl s, rfl⟩ trivial
  refine ⟨n, _, h1, h2, h3, hpost _ _ _ _ _ _ ⟨Cond.after_iff.mpr rfl, Cond.after_iff.mpr (eq_i res_at (Term.int_eval (1)) rfl), trivial⟩ ⟨hq.1, hq.2.1, (hq.2.2.sift fun y hy => Or.inr (N y hy)).mono (by decide) (by decide)⟩⟩
theorem main_1_1 : Claimed_1_1 := comes_1 fun _ _ _ _ _ _ h hF => ⟨h.1, hF⟩
theorem main_1_2 : Claimed_1_2 := comes_1 fun _ _ _ _ _ _ h hF => ⟨h.2.1, hF⟩
end Jvm.Pilot.@@N@@
namespace Jvm.Pilot.@@N@@
open Jvm Jvm.ClassFile Sem Op Lib Jvm.Free Jvm.Stand Jvm.Pilot.@@N@@.Jvm.D
/-! MADE BY PROGRAM (witnessworld.py) out of the Statement's table words and the real class files: 9 classes; the members and pool entries that the words name. The judged class is class 1, her method 1. -/
namespace start1
open Jvm.ClassFile
def u (s : String) : CpInfo := .utf8 (stringToUtf16 s)
/-- a pool by its gaps: so many unusable entries, then the entry; so many at the end -/
def gap : Nat → List CpInfo → List CpInfo
  | 0, r => r
  | n + 1, r => .unusable :: gap n r
def poolList (es : List (Nat × CpInfo)) (last : Nat) : List CpInfo := es.foldr (fun e r => gap e.1 (e.2 :: r)) (gap last [])
def pool (es : List (Nat × CpInfo)) (last : Nat) : Array CpInfo := ⟨poolList es last⟩
def fileOf (pool : Array CpInfo) (this : Nat) (attrs : Array Attribute := #[]) (ms : Array MethodInfo := #[]) (fl : Nat := 33) (sup : Nat := 0) (ifs : Array Nat := #[]) (fds : Array FieldInfo := #[]) : ClassFile where
  minorVersion := 0
  majorVersion := 65
  constantPool := pool
  accessFlags := fl
  thisClass := this
  superClass := sup
  interfaces := ifs
  fields := fds
  methods := ms
  attributes := attrs
def plain (name : String) (sup : Option ClassId) : Class where
  name := name
  kind := .ordinary
  loader := none
  accessFlags := 33
  super := sup
  interfaces := #[]
  cf := none
  fields := #[]
  methods := #[]
  instanceTypes := #[]
  staticTypes := #[]
  resolved := #[]
  callSites := []
  init := .initialized
  statics := none
  mirror := none

def pool0 : Array CpInfo := pool [(5, u "<init>"), (0, u "()V"), (1, .class_ 10), (1, u "java/lang/Object")] 113

def k0m0 : Method := { name := "<init>", desc := "()V", sig := { parameters := [], returnType := none }, accessFlags := 1, code := none }
/-- java/lang/Object -/
def k0 : Class := { plain "java/lang/Object" none with
  accessFlags := 33
  interfaces := #[]
  cf := some (fileOf pool0 8 #[] #[{ accessFlags := 1, nameIndex := 5, descriptorIndex := 6, attributes := #[] }] 33 0 #[] #[])
  fields := #[]
  methods := #[k0m0]
  instanceTypes := #[]
  staticTypes := #[]
  resolved := Array.replicate 124 none
  statics := none }

def pool1 : Array CpInfo := pool [(2, .class_ 4), (1, u "java/lang/Object"), (0, u "<init>"), (0, u "()V"), (2, .long 9223372036854775807), (1, .long 100000000), (1, .long 10000000), (1, .long 10), (1, .long 1000000), (1, .long 100000), (1, .long 10000), (1, .long 1000), (1, .long 100), (1, .methodref 28 29), (0, .class_ 30), (0, .nameAndType 31 32), (0, u "com/example/stratum_codecs/stratumcodecs/TextFormat"), (0, u "chunk"), (0, u "(J)J"), (0, .class_ 34), (0, u "com/example/stratum_codecs/stratumcodecs/TextFormatChunkPinLaw"), (2, u "law"), (0, u "(J)Z")] 3

def k1m0 : Method := { name := "<init>", desc := "()V", sig := { parameters := [], returnType := none }, accessFlags := 2, code := none }
def k1c1 : Code := { maxStack := 5, maxLocals := 22, code := code, exceptionTable := #[], attributes := #[] }
def k1m1 : Method := { name := "law", desc := "(J)Z", sig := { parameters := [.long], returnType := some .boolean }, accessFlags := 9, code := some k1c1 }
/-- com/example/stratum_codecs/stratumcodecs/TextFormatChunkPinLaw -/
def k1 : Class := { plain "com/example/stratum_codecs/stratumcodecs/TextFormatChunkPinLaw" (some 0) with
  accessFlags := 49
  interfaces := #[]
  cf := some (fileOf pool1 33 #[] #[{ accessFlags := 2, nameIndex := 5, descriptorIndex := 6, attributes := #[] }, { accessFlags := 9, nameIndex := 37, descriptorIndex := 38, attributes := #[] }] 49 2 #[] #[])
  fields := #[]
  methods := #[k1m0, k1m1]
  instanceTypes := #[]
  staticTypes := #[]
  resolved := Array.replicate 42 none
  statics := none }

def pool2 : Array CpInfo := pool [(4, .class_ 6), (1, u "java/lang/Object"), (0, u "<init>"), (0, u "()V"), (18, .class_ 28), (0, u "com/example/stratum_codecs/stratumcodecs/TextFormat"), (20, u "chunk"), (0, u "(J)J"), (13, u "MAX_HIGH"), (0, u "J"), (2, u "MAX_LOW"), (19, .long 2561), (1, .long 71777214294589695), (3, .long 6553601), (1, .long 281470681808895), (3, .long 42949672960001), (3, u "STRATEGY"), (0, u "Ljava/lang/String;"), (3, u "DOCS"), (2, u "FIELD"), (2, u "STORED"), (2, u "NUMBER"), (2, u "KIND"), (2, u "TYPE"), (2, u "MIN_VALUE"), (2, u "MAX_LENGTH"), (2, u "NUM_VALUES"), (2, u "DICTIONARY_MAX_LENGTH"), (2, u "PATTERN"), (2, u "ORD_PATTERN"), (2, u "LENGTH"), (2, u "NEWLINE"), (0, u "B"), (1, u "PRESENT"), (1, u "MISSING"), (1, u "ZERO"), (1, u "NO_ORDINAL"), (1, u "LIST_PATTERN"), (1, u "SEPARATOR"), (1, u "PAD"), (1, u "MAX_DIGITS"), (0, u "I"), (1, u "PAST_MAX"), (2, u "CHUNK_DIGITS"), (1, u "CHUNK"), (0, u "ZEROS"), (0, u "DIGIT_LIMITS"), (0, u "TOP_BITS")] 30

def k2m0 : Method := { name := "<init>", desc := "()V", sig := { parameters := [], returnType := none }, accessFlags := 2, code := none }
def k2c1 : Code := { maxStack := 4, maxLocals := 6, code := prog_174_method_9_code, exceptionTable := #[], attributes := #[] }
def k2m1 : Method := { name := "chunk", desc := "(J)J", sig := { parameters := [.long], returnType := some .long }, accessFlags := 8, code := some k2c1 }
/-- com/example/stratum_codecs/stratumcodecs/TextFormat -/
def k2 : Class := { plain "com/example/stratum_codecs/stratumcodecs/TextFormat" (some 0) with
  accessFlags := 48
  interfaces := #[]
  cf := some (fileOf pool2 27 #[] #[{ accessFlags := 2, nameIndex := 7, descriptorIndex := 8, attributes := #[] }, { accessFlags := 8, nameIndex := 49, descriptorIndex := 50, attributes := #[] }] 48 4 #[] #[{ accessFlags := 24, nameIndex := 104, descriptorIndex := 105, attributes := #[] }, { accessFlags := 24, nameIndex := 109, descriptorIndex := 105, attributes := #[] }, { accessFlags := 24, nameIndex := 112, descriptorIndex := 105, attributes := #[] }, { accessFlags := 24, nameIndex := 115, descriptorIndex := 105, attributes := #[] }, { accessFlags := 24, nameIndex := 118, descriptorIndex := 105, attributes := #[] }, { accessFlags := 24, nameIndex := 121, descriptorIndex := 105, attributes := #[] }, { accessFlags := 24, nameIndex := 124, descriptorIndex := 105, attributes := #[] }, { accessFlags := 24, nameIndex := 127, descriptorIndex := 105, attributes := #[] }, { accessFlags := 24, nameIndex := 130, descriptorIndex := 105, attributes := #[] }, { accessFlags := 24, nameIndex := 133, descriptorIndex := 105, attributes := #[] }, { accessFlags := 24, nameIndex := 136, descriptorIndex := 105, attributes := #[] }, { accessFlags := 24, nameIndex := 139, descriptorIndex := 105, attributes := #[] }, { accessFlags := 24, nameIndex := 142, descriptorIndex := 105, attributes := #[] }, { accessFlags := 24, nameIndex := 145, descriptorIndex := 105, attributes := #[] }, { accessFlags := 24, nameIndex := 148, descriptorIndex := 149, attributes := #[] }, { accessFlags := 24, nameIndex := 151, descriptorIndex := 149, attributes := #[] }, { accessFlags := 24, nameIndex := 153, descriptorIndex := 149, attributes := #[] }, { accessFlags := 24, nameIndex := 155, descriptorIndex := 149, attributes := #[] }, { accessFlags := 24, nameIndex := 157, descriptorIndex := 149, attributes := #[] }, { accessFlags := 24, nameIndex := 159, descriptorIndex := 149, attributes := #[] }, { accessFlags := 24, nameIndex := 161, descriptorIndex := 149, attributes := #[] }, { accessFlags := 24, nameIndex := 163, descriptorIndex := 149, attributes := #[] }, { accessFlags := 24, nameIndex := 165, descriptorIndex := 166, attributes := #[] }, { accessFlags := 24, nameIndex := 168, descriptorIndex := 105, attributes := #[] }, { accessFlags := 26, nameIndex := 171, descriptorIndex := 166, attributes := #[] }, { accessFlags := 26, nameIndex := 173, descriptorIndex := 65, attributes := #[] }, { accessFlags := 26, nameIndex := 64, descriptorIndex := 65, attributes := #[] }, { accessFlags := 26, nameIndex := 68, descriptorIndex := 65, attributes := #[] }, { accessFlags := 24, nameIndex := 174, descriptorIndex := 65, attributes := #[] }, { accessFlags := 24, nameIndex := 175, descriptorIndex := 65, attributes := #[] }, { accessFlags := 26, nameIndex := 176, descriptorIndex := 65, attributes := #[] }])
  fields := #[{ name := "STRATEGY", type := (.object "java/lang/String"), accessFlags := 24, slot := 0, constantValue := 0 }, { name := "DOCS", type := (.object "java/lang/String"), accessFlags := 24, slot := 1, constantValue := 0 }, { name := "FIELD", type := (.object "java/lang/String"), accessFlags := 24, slot := 2, constantValue := 0 }, { name := "STORED", type := (.object "java/lang/String"), accessFlags := 24, slot := 3, constantValue := 0 }, { name := "NUMBER", type := (.object "java/lang/String"), accessFlags := 24, slot := 4, constantValue := 0 }, { name := "KIND", type := (.object "java/lang/String"), accessFlags := 24, slot := 5, constantValue := 0 }, { name := "TYPE", type := (.object "java/lang/String"), accessFlags := 24, slot := 6, constantValue := 0 }, { name := "MIN_VALUE", type := (.object "java/lang/String"), accessFlags := 24, slot := 7, constantValue := 0 }, { name := "MAX_LENGTH", type := (.object "java/lang/String"), accessFlags := 24, slot := 8, constantValue := 0 }, { name := "NUM_VALUES", type := (.object "java/lang/String"), accessFlags := 24, slot := 9, constantValue := 0 }, { name := "DICTIONARY_MAX_LENGTH", type := (.object "java/lang/String"), accessFlags := 24, slot := 10, constantValue := 0 }, { name := "PATTERN", type := (.object "java/lang/String"), accessFlags := 24, slot := 11, constantValue := 0 }, { name := "ORD_PATTERN", type := (.object "java/lang/String"), accessFlags := 24, slot := 12, constantValue := 0 }, { name := "LENGTH", type := (.object "java/lang/String"), accessFlags := 24, slot := 13, constantValue := 0 }, { name := "NEWLINE", type := .byte, accessFlags := 24, slot := 14, constantValue := 0 }, { name := "PRESENT", type := .byte, accessFlags := 24, slot := 15, constantValue := 0 }, { name := "MISSING", type := .byte, accessFlags := 24, slot := 16, constantValue := 0 }, { name := "ZERO", type := .byte, accessFlags := 24, slot := 17, constantValue := 0 }, { name := "NO_ORDINAL", type := .byte, accessFlags := 24, slot := 18, constantValue := 0 }, { name := "LIST_PATTERN", type := .byte, accessFlags := 24, slot := 19, constantValue := 0 }, { name := "SEPARATOR", type := .byte, accessFlags := 24, slot := 20, constantValue := 0 }, { name := "PAD", type := .byte, accessFlags := 24, slot := 21, constantValue := 0 }, { name := "MAX_DIGITS", type := .int, accessFlags := 24, slot := 22, constantValue := 0 }, { name := "PAST_MAX", type := (.object "java/lang/String"), accessFlags := 24, slot := 23, constantValue := 0 }, { name := "CHUNK_DIGITS", type := .int, accessFlags := 26, slot := 24, constantValue := 0 }, { name := "CHUNK", type := .long, accessFlags := 26, slot := 25, constantValue := 0 }, { name := "MAX_HIGH", type := .long, accessFlags := 26, slot := 26, constantValue := 0 }, { name := "MAX_LOW", type := .long, accessFlags := 26, slot := 27, constantValue := 0 }, { name := "ZEROS", type := .long, accessFlags := 24, slot := 28, constantValue := 0 }, { name := "DIGIT_LIMITS", type := .long, accessFlags := 24, slot := 29, constantValue := 0 }, { name := "TOP_BITS", type := .long, accessFlags := 26, slot := 30, constantValue := 0 }]
  methods := #[k2m0, k2m1]
  instanceTypes := #[]
  staticTypes := #[(.object "java/lang/String"), (.object "java/lang/String"), (.object "java/lang/String"), (.object "java/lang/String"), (.object "java/lang/String"), (.object "java/lang/String"), (.object "java/lang/String"), (.object "java/lang/String"), (.object "java/lang/String"), (.object "java/lang/String"), (.object "java/lang/String"), (.object "java/lang/String"), (.object "java/lang/String"), (.object "java/lang/String"), .byte, .byte, .byte, .byte, .byte, .byte, .byte, .byte, .int, (.object "java/lang/String"), .int, .long, .long, .long, .long, .long, .long]
  resolved := Array.replicate 207 none
  statics := none }

def pool3 : Array CpInfo := pool [(1, u "java/lang/Cloneable"), (0, .class_ 1), (0, u "java/lang/Object"), (0, .class_ 3)] 3

/-- java/lang/Cloneable -/
def k3 : Class := { plain "java/lang/Cloneable" (some 0) with
  accessFlags := 1537
  interfaces := #[]
  cf := some (fileOf pool3 2 #[] #[] 1537 4 #[] #[])
  fields := #[]
  methods := #[]
  instanceTypes := #[]
  staticTypes := #[]
  resolved := Array.replicate 8 none
  statics := none }

def pool4 : Array CpInfo := pool [(1, u "java/io/Serializable"), (0, .class_ 1), (0, u "java/lang/Object"), (0, .class_ 3)] 3

/-- java/io/Serializable -/
def k4 : Class := { plain "java/io/Serializable" (some 0) with
  accessFlags := 1537
  interfaces := #[]
  cf := some (fileOf pool4 2 #[] #[] 1537 4 #[] #[])
  fields := #[]
  methods := #[]
  instanceTypes := #[]
  staticTypes := #[]
  resolved := Array.replicate 8 none
  statics := none }

/-- the primitive byte -/
def k5 : Class := { plain "byte" none with kind := .primitive 'B', accessFlags := 0x411 }
/-- [B -/
def k6 : Class := { plain "[B" (some 0) with kind := .array 5 .byte, interfaces := #[3, 4], accessFlags := 1041 }

/-- the primitive int -/
def k7 : Class := { plain "int" none with kind := .primitive 'I', accessFlags := 0x411 }
/-- [I -/
def k8 : Class := { plain "[I" (some 0) with kind := .array 7 .int, interfaces := #[3, 4], accessFlags := 1041 }

def heap : Heap := #[]
def classes : Array Class := #[k0, k1, k2, k3, k4, k5, k6, k7, k8]
def interned : List (Array UInt16 × Addr) := []
def slotsUsed : Nat := 0
def theMethod : MethodId := ⟨1, 1⟩
def args0 : Array Value := #[.long 5]
def aboutOver (below : List Frame) : State where
  vm := { classes := classes, interned := interned.toArray }
  heap := heap
  slotsUsed := slotsUsed
  threads := #[{ frames := .invoking theMethod args0 :: below }]
def below0 : List Frame := [.native { method := ⟨0, 0⟩, args := #[] }]
def about1 : State := aboutOver below0
def p0 : Program := .bare "" "" ""
def e0 : Env := launch0.env 0 0 0
theorem w_frames : about1.frames = Frame.invoking theMethod args0 :: below0 := rfl
set_option maxRecDepth 65536 in
theorem w_args : argsFit about1.vm theMethod args0 = true := by decide +kernel
set_option maxRecDepth 65536 in
theorem w_heap : heapFits about1 = true := by decide +kernel
set_option maxRecDepth 65536 in
theorem w_runnable : about1.curStatus? = some .runnable := by decide +kernel
set_option maxRecDepth 65536 in
theorem w_alone : about1.alone = true := by decide +kernel
set_option maxRecDepth 65536 in
theorem w_named : about1.methodNamed? x = some theMethod := by decide +kernel
set_option maxRecDepth 65536 in
theorem w_hears : about1.hears theMethod below0 = true := by decide +kernel
set_option maxRecDepth 65536 in
theorem w_ripe : about1.ripe theMethod args0 below0 = true := by decide +kernel
theorem w_running : about1.status = .running := rfl
set_option maxRecDepth 65536 in
theorem w_room : about1.hasRoom e0.platform room_1 = true :=
  launch0.hasRoom_least _ room_1 (by decide +kernel) (by decide +kernel) (by decide +kernel) (by decide +kernel) (by decide +kernel) (by decide +kernel)
theorem allAtoms_all (ts : List Jvm.Cond) (a : Array Jvm.Value) (st : Jvm.State) : (allAtoms ts).before a st = ts.all (fun c => c.before a st) := by
  induction ts with
  | nil => rfl
  | cons c t ih =>
    show (Jvm.Cond.and c (allAtoms t)).before a st = _
    rw [Jvm.Cond.before_and, ih, List.all_cons]
def words1 : List Jvm.Cond := Jvm.Cond.code x code maxLocals ret :: tables_1
/-- a 'code' word, met by the world's own term for the bytes: nothing is compared byte by byte -/
theorem code_word {y : MethodName} {bytes : ByteArray} {mx : Nat} {rt : Option FieldType} {a : Array Value} {s : State} {m : MethodId} {meth : Method} {c : Code} (h1 : s.methodNamed? y = some m) (h2 : s.vm.method? m = some meth) (h3 : meth.code = some c) (h4 : c.code = bytes)
    (h5 : (c.maxLocals == mx && c.exceptionTable.isEmpty && decide (c.maxStack ≤ mostOperands) && decide (meth.sig.returnType = rt) && !meth.locks && decide (parseMethodDescriptor y.desc = some meth.sig)) = true) : (Jvm.Cond.code y bytes mx rt).before a s = true := by
  simp only [Bool.and_eq_true, beq_iff_eq, Bool.not_eq_true', decide_eq_true_eq] at h5
  obtain ⟨⟨⟨⟨⟨g1, g2⟩, g3⟩, g4⟩, g5⟩, g6⟩ := h5
  simp [Cond.before, Cond.holds, Cond.value, h1, h2, h3, h4, g1, g2, g3, g4, g5, g6]
def isCode : Jvm.Cond → Bool
  | .code _ _ _ _ => true
  | _ => false
theorem all_split {L : List Jvm.Cond} {P : Jvm.Cond → Bool} (h1 : L.all (fun c => isCode c || P c) = true) (h2 : ∀ c ∈ L.filter isCode, P c = true) : L.all P = true := by
  refine List.all_eq_true.mpr fun c hc => ?_
  have h := List.all_eq_true.mp h1 c hc
  rcases Bool.eq_false_or_eq_true (isCode c) with hi | hi
  · exact h2 c (List.mem_filter.mpr ⟨hc, hi⟩)
  · simpa [hi] using h
set_option maxRecDepth 65536 in
theorem w_c0 : (Jvm.Cond.code x code maxLocals ret).before args0 about1 = true := code_word (m := ⟨1, 1⟩) (meth := k1m1) (c := k1c1) (by decide +kernel) rfl rfl rfl (by decide +kernel)
set_option maxRecDepth 65536 in
theorem w_c1 : (Jvm.Cond.code ({ cls := "com/example/stratum_codecs/stratumcodecs/TextFormat", name := "chunk", desc := "(J)J" } : Jvm.MethodName) prog_174_method_9_code (6 : Nat) (Option.some Jvm.ClassFile.FieldType.long)).before args0 about1 = true := code_word (m := ⟨2, 1⟩) (meth := k2m1) (c := k2c1) (by decide +kernel) rfl rfl rfl (by decide +kernel)
def codes1 : List Jvm.Cond := [Jvm.Cond.code x code maxLocals ret, Jvm.Cond.code ({ cls := "com/example/stratum_codecs/stratumcodecs/TextFormat", name := "chunk", desc := "(J)J" } : Jvm.MethodName) prog_174_method_9_code (6 : Nat) (Option.some Jvm.ClassFile.FieldType.long)]
set_option maxRecDepth 65536 in
theorem codes_eq : words1.filter isCode = codes1 := rfl
theorem w_codes : ∀ c ∈ words1.filter isCode, c.before args0 about1 = true := by
  rw [codes_eq]
  intro c hc
  simp only [codes1, List.mem_cons, List.not_mem_nil, or_false] at hc
  rcases hc with rfl | rfl
  · exact w_c0
  · exact w_c1
set_option maxRecDepth 65536 in
theorem w_t1 : words1.all (fun c => isCode c || c.before args0 about1) = true := by decide +kernel
theorem w_tables : (allAtoms (Jvm.Cond.code x code maxLocals ret :: tables_1)).before args0 about1 = true := by
  rw [allAtoms_all]
  show words1.all (fun c => c.before args0 about1) = true
  refine all_split ?_ w_codes
  rw [w_t1]
set_option maxRecDepth 65536 in
theorem w_case : (Jvm.Cond.and given_1 narrow_1).before args0 about1 = true := by decide +kernel
theorem w_applies : (headSpec (Jvm.Cond.code x code maxLocals ret :: tables_1) room_1).applies x e0.platform about1 = true :=
  (Spec.applies_iff w_frames).mpr ⟨w_running, w_runnable, w_alone, w_named, w_hears, w_ripe, w_room, w_tables⟩
theorem atStart : AtStart classFile x code maxLocals ret World_1 tables_1 room_1 Calls_1 rest_1 Pre_1 launch0 p0 e0 about1 theMethod args0 below0 :=
  ⟨lists_1, trivial, launch0.admits_env _ _ _, launch0.least_env, fairChoices_fair.cas, fairChoices_fair.clock, w_frames, w_args, w_heap, w_applies, trivial, trivial, w_case⟩
end start1
theorem witness_1 : WitnessClaimed_1 := ⟨start1.p0, start1.e0, start1.about1, start1.theMethod, start1.args0, start1.below0, start1.atStart⟩
end Jvm.Pilot.@@N@@
