import JvmDerived
import JvmDerived.Pilot.@@N@@Statement
import JvmDerived.Pilot.@@N@@Code
set_option linter.unusedVariables false
set_option linter.unusedSimpArgs false
namespace Jvm.Pilot.@@N@@
open Jvm Jvm.ClassFile Sem Op Lib Jvm.Free Jvm.Stand Jvm.LawKit Jvm.RoadKit Bundle Jvm.Pilot.@@N@@.Jvm.D
section OwnKit
variable {p : Program} {l : Launch} {e : Env} {R : Room} {s : State} {m : MethodId} {args : Array Value} {below : List Frame} {meth : Method} {c : Code} {T : State} {locs : List Loc} {cells slots : Nat} {Z : State} {a0 : Array Value} {h : Heap}
/-- from the state U on the run comes to an end of which Q holds -/
def own_Go (p : Program) (e : Env) (below : List Frame) (Q : Outcome → State → Prop) (U : State) : Prop :=
  ∃ u o, Steps p.tables e below U u ∧ u.status = .running ∧ Ended u below o ∧ Q o u
theorem own_st {Q : Outcome → State → Prop} {U V : State} (k : ∀ t, Steps p.tables e below V t → Steps p.tables e below U t) (q : own_Go p e below Q V) : own_Go p e below Q U := by
  obtain ⟨u, o, h1, h2⟩ := q
  exact ⟨u, o, k _ h1, h2⟩
theorem own_tr {Q : Outcome → State → Prop} {U V : State} (k : Steps p.tables e below U V) (q : own_Go p e below Q V) : own_Go p e below Q U := by
  obtain ⟨u, o, h1, h2⟩ := q
  exact ⟨u, o, k.trans h1, h2⟩
/-- what a body leaves, said of its end -/
abbrev own_Post (s : State) (Qc : Option Value → Heap → List Loc → Prop) (k n : Nat) : Outcome → State → Prop := fun o u => ∃ v L, o = .returned v ∧ Qc v u.heap L ∧ FrameEnd s o u L k n
theorem own_body {y : MethodName} {bytes : ByteArray} {maxL : Nat} {ret : Option FieldType} {ws : List Jvm.Cond} {rm : Room} {as' : Array Value} {h0 : Heap} {Qc : Option Value → Heap → List Loc → Prop} {k n : Nat} (hpl : plainFor y = true)
    (body : ∀ (p : Program) (e : Env) (s : State) (m : MethodId) (below : List Frame) (meth : Method) (c : Code) (s₁ : State), Stand p l e rm s m as' below meth c s₁ [] 0 0 → p.tables.exec = Jvm.exec → Z.Warmed39 s.vm → c.code = bytes → c.maxLocals = maxL → s.vm.findClass y.cls = some m.cls →
      meth.sig.returnType = ret → meth.locks = false → meth.name = y.name → s₁.heap = h0 → own_Go p e below (own_Post s Qc k n) (s₁.setTop (entryFrame m as' maxL))) :
    MetFree l y (head1 (Jvm.Cond.code y bytes maxL ret :: ws) rm) (fun a U => a = as' ∧ Z.Warmed39 U.vm ∧ U.heap = h0) (fun _ _ _ _ _ => True) (fun _ U o U' => own_Post U Qc k n o U') := by
  refine MetFree.of_bodySF hpl hisR ?_
  intro p e s m args below meth c s₁ Bd hml0 hP hK
  obtain ⟨rfl, hZ, hh⟩ := hP
  exact body p e s m below meth c s₁ (Stand.of_body Bd) Bd.exec hZ Bd.bytes hml0 (findClass_of_methodNamed Bd.named) Bd.returns Bd.notSynchronized (name_of_methodNamed Bd.named Bd.method).1 (by rw [← hh, Bd.state]; rfl)
theorem own_end {Qc : Option Value → Heap → List Loc → Prop} {k n : Nat} {v : Option Value} (X : Stand p l e R s m args below meth c T locs cells slots) (hlk : meth.locks = false) (hv : meth.sig.returnType = none → v = none) {g : JFrame}
    (hst : ∀ fs, (∀ (f : JFrame) (acts : List Action), f.method = m → f.locked = none → f.entered = [] → (doReturn e (T.setTop f) acts v).1 = T.setFrames fs) → Steps p.tables e below (T.setTop g) (T.setFrames fs))
    (hQ : Qc v T.heap locs) (hk : cells ≤ k) (hn : slots ≤ n) : own_Go p e below (own_Post s Qc k n) (T.setTop g) := by
  obtain ⟨fs, hr, hrun, hended, hW, hsame⟩ := X.leave (v := v) hv hlk
  exact ⟨_, _, hst fs hr, hrun, hended, _, _, rfl, hQ, ⟨_, rfl⟩, hW, hsame.mono hk hn⟩
theorem own_retI {Qc : Option Value → Heap → List Loc → Prop} {k n : Nat} (X : Stand p l e R s m args below meth c T locs cells slots) (hx : p.tables.exec = Jvm.exec) (hlk : meth.locks = false) (hret : meth.sig.returnType = some .int) {pc : Nat} {Ls : Array Slot} {z : Int32} {rest : List Value}
    (hd : decode c.code pc = .ok (.ireturn, 1)) (hQ : Qc (some (.int z)) T.heap locs) (hk : cells ≤ k) (hn : slots ≤ n) : own_Go p e below (own_Post s Qc k n) (T.setTop (mkF m pc Ls (.int z :: rest))) :=
  own_end X hlk (fun q => by rw [hret] at q; cases q) (fun fs hr => retOut X hx hret (w := .int z) (t := .int) rfl (Or.inl ⟨rfl, Or.inl rfl, z, rfl⟩) hd hr) hQ hk hn
theorem own_retZ {Qc : Option Value → Heap → List Loc → Prop} {k n : Nat} (X : Stand p l e R s m args below meth c T locs cells slots) (hx : p.tables.exec = Jvm.exec) (hlk : meth.locks = false) (hret : meth.sig.returnType = some .boolean) {pc : Nat} {Ls : Array Slot} {z : Int32} {rest : List Value}
    (hz : narrow .boolean (.int z) = .int z) (hd : decode c.code pc = .ok (.ireturn, 1)) (hQ : Qc (some (.int z)) T.heap locs) (hk : cells ≤ k) (hn : slots ≤ n) : own_Go p e below (own_Post s Qc k n) (T.setTop (mkF m pc Ls (.int z :: rest))) :=
  own_end X hlk (fun q => by rw [hret] at q; cases q) (fun fs hr => retOut X hx hret (w := .int z) (t := .boolean) hz (Or.inl ⟨rfl, Or.inr (Or.inl rfl), z, rfl⟩) hd hr) hQ hk hn
theorem own_retJ {Qc : Option Value → Heap → List Loc → Prop} {k n : Nat} (X : Stand p l e R s m args below meth c T locs cells slots) (hx : p.tables.exec = Jvm.exec) (hlk : meth.locks = false) (hret : meth.sig.returnType = some .long) {pc : Nat} {Ls : Array Slot} {z : Int64} {rest : List Value}
    (hd : decode c.code pc = .ok (.lreturn, 1)) (hQ : Qc (some (.long z)) T.heap locs) (hk : cells ≤ k) (hn : slots ≤ n) : own_Go p e below (own_Post s Qc k n) (T.setTop (mkF m pc Ls (.long z :: rest))) :=
  own_end X hlk (fun q => by rw [hret] at q; cases q) (fun fs hr => retOut X hx hret (w := .long z) (t := .long) rfl (Or.inr (Or.inl ⟨rfl, rfl, z, rfl⟩)) hd hr) hQ hk hn
theorem own_retA {Qc : Option Value → Heap → List Loc → Prop} {k n : Nat} (X : Stand p l e R s m args below meth c T locs cells slots) (hx : p.tables.exec = Jvm.exec) (hlk : meth.locks = false) {t : FieldType} (hret : meth.sig.returnType = some t) (ht : t.isReference = true) {pc : Nat} {Ls : Array Slot} {w : Value} (hw : w.isRef = true)
    (hd : decode c.code pc = .ok (.areturn, 1)) (hQ : Qc (some w) T.heap locs) (hk : cells ≤ k) (hn : slots ≤ n) : own_Go p e below (own_Post s Qc k n) (T.setTop (mkF m pc Ls [w])) :=
  own_end X hlk (fun q => by rw [hret] at q; cases q) (fun fs hr => X.areturnOut hx hw hret ht hd hr) hQ hk hn
theorem own_retV {Qc : Option Value → Heap → List Loc → Prop} {k n : Nat} (X : Stand p l e R s m args below meth c T locs cells slots) (hx : p.tables.exec = Jvm.exec) (hlk : meth.locks = false) (hret : meth.sig.returnType = none) {pc : Nat} {Ls : Array Slot}
    (hd : decode c.code pc = .ok (.return_, 1)) (hQ : Qc none T.heap locs) (hk : cells ≤ k) (hn : slots ≤ n) : own_Go p e below (own_Post s Qc k n) (T.setTop (mkF m pc Ls [])) :=
  own_end X hlk (fun _ => rfl) (fun fs hr => X.returnOut hx hret hd hr) hQ hk hn
/-- a callee's contract, as own_body proves it and the three calls below spend it -/
abbrev own_Met (l : Launch) (Z : State) (y : MethodName) (bytes : ByteArray) (maxL : Nat) (ret : Option FieldType) (rm : Room) (as' : Array Value) (h0 : Heap) (Qc : Option Value → Heap → List Loc → Prop) : Prop :=
  MetFree l y (head1 [Jvm.Cond.code y bytes maxL ret] rm) (fun a U => a = as' ∧ Z.Warmed39 U.vm ∧ U.heap = h0) (fun _ _ _ _ _ => True) (fun _ U o U' => own_Post U Qc rm.cells rm.slots o U')
theorem own_callS (X : Stand p l e R s m args below meth c T locs cells slots) (hx : p.tables.exec = Jvm.exec) (hZ : Z.Warmed39 s.vm) {own : String} {index : Nat} {y : MethodName} {bytes : ByteArray} {maxL : Nat} {ret : Option FieldType} {rm : Room} {Qc : Option Value → Heap → List Loc → Prop} {argsL rest : List Value} {ps : List FieldType} {W : Nat} {g : JFrame}
    (hM : own_Met l Z y bytes maxL ret rm argsL.toArray h Qc) (hown : s.vm.findClass own = some m.cls) (w1 : (Jvm.Cond.methodLink own index y).before a0 Z = true) (w2 : (Jvm.Cond.static y).before a0 Z = true) (w3 : (Jvm.Cond.initialized y.cls).before a0 Z = true) (w4 : (Jvm.Cond.code y bytes maxL ret).before a0 Z = true)
    (hy : y.cls ≠ "java/lang/invoke/MethodHandle" ∧ y.cls ≠ "java/lang/invoke/VarHandle") (eT : T.heap = h) (hg : g.method = m) (hsize : g.locals.size = c.maxLocals) (hdesc : parseMethodDescriptor y.desc = some ⟨ps, ret⟩) (hlen : argsL.length = ps.length) (hstack : g.stack = argsL.reverse ++ rest)
    (hW : 2 * g.monitorRoom + (rest.map fun v => v.category).sum ≤ W) (hdg : decode c.code g.pc = .ok (.invokestatic index, 3)) (hf : rm.frames + 1 ≤ R.frames) (hl : W + (maxL + 11) + rm.locals ≤ R.locals) (hc : cells + rm.cells ≤ R.cells) (hs : slots + rm.slots ≤ R.slots) :
    ∃ v T' L, Stand p l e R s m args below meth c T' (locs ++ L) (cells + rm.cells) (slots + rm.slots) ∧ Qc v T'.heap L ∧ ∀ target, Steps p.tables e below (T'.setTop { g with pc := g.pc + 3, stack := v.toList ++ rest }) target → Steps p.tables e below (T.setTop g) target := by
  obtain ⟨v, _, ⟨T1, L1, k1, n1⟩, -, X1, ⟨L, hQ, q1, q2, q3⟩, st⟩ := Jvm.LawKit.callS X hx (y := y) hown (mvT hZ w1) (mvT hZ w2) (mvT hZ w3) (mvT hZ w4) hy (backOf (W := W) hM hZ w4 w3 hf hl) (g := g) hg hsize (lenOf hdesc hlen) hstack hW hdg (fun _ _ => ⟨rfl, eT, hc, hs⟩)
  dsimp only [Pt.U, Pt.locs, Pt.cells, Pt.slots] at X1 q1 q2 q3 st hQ
  subst q1 q2 q3
  exact ⟨v, T1, L, X1, hQ, st⟩
theorem own_callI (X : Stand p l e R s m args below meth c T locs cells slots) (hx : p.tables.exec = Jvm.exec) (hZ : Z.Warmed39 s.vm) {own : String} {index : Nat} {y : MethodName} {bytes : ByteArray} {maxL : Nat} {rm : Room} {Qc : Option Value → Heap → List Loc → Prop} {a : Addr} {argsL rest : List Value} {ps : List FieldType} {W : Nat} {g : JFrame}
    (hM : own_Met l Z y bytes maxL none rm (.ref a :: argsL).toArray h Qc) (hn : y.name = "<init>") (hown : s.vm.findClass own = some m.cls) (w1 : (Jvm.Cond.methodLink own index y).before a0 Z = true) (w2 : (Jvm.Cond.instanceMethod y).before a0 Z = true) (w3 : (Jvm.Cond.initialized y.cls).before a0 Z = true) (w4 : (Jvm.Cond.code y bytes maxL none).before a0 Z = true)
    (hy : y.cls ≠ "java/lang/invoke/MethodHandle" ∧ y.cls ≠ "java/lang/invoke/VarHandle") (eT : T.heap = h) (hg : g.method = m) (hsize : g.locals.size = c.maxLocals) (hdesc : parseMethodDescriptor y.desc = some ⟨ps, none⟩) (hlen : argsL.length = ps.length) (hstack : g.stack = argsL.reverse ++ .ref a :: rest)
    (hW : 2 * g.monitorRoom + (rest.map fun v => v.category).sum ≤ W) (hdg : decode c.code g.pc = .ok (.invokespecial index, 3)) (hf : rm.frames + 1 ≤ R.frames) (hl : W + (maxL + 11) + rm.locals ≤ R.locals) (hc : cells + rm.cells ≤ R.cells) (hs : slots + rm.slots ≤ R.slots) :
    ∃ v T' L, Stand p l e R s m args below meth c T' (locs ++ L) (cells + rm.cells) (slots + rm.slots) ∧ Qc v T'.heap L ∧ ∀ target, Steps p.tables e below (T'.setTop { g with pc := g.pc + 3, stack := v.toList ++ rest }) target → Steps p.tables e below (T.setTop g) target := by
  obtain ⟨v, _, ⟨T1, L1, k1, n1⟩, -, X1, ⟨L, hQ, q1, q2, q3⟩, st⟩ := X.specialBack hx (y := y) hn hown (mvT hZ w1) (mvT hZ w2) (mvT hZ w4) hy (backOf (W := W) hM hZ w4 w3 hf hl) (g := g) hg hsize (Steps.refl _) (a := a) (lenOf hdesc hlen) hstack hW hdg (fun _ _ => ⟨rfl, eT, hc, hs⟩)
  dsimp only [Pt.U, Pt.locs, Pt.cells, Pt.slots] at X1 q1 q2 q3 st hQ
  subst q1 q2 q3
  exact ⟨v, T1, L, X1, hQ, fun _ q => st.trans q⟩
theorem own_callV (X : Stand p l e R s m args below meth c T locs cells slots) (hx : p.tables.exec = Jvm.exec) (hZ : Z.Warmed39 s.vm) {own : String} {index : Nat} {y : MethodName} {bytes : ByteArray} {maxL : Nat} {ret : Option FieldType} {rm : Room} {Qc : Option Value → Heap → List Loc → Prop} {a : Addr} {argsL rest : List Value} {ps : List FieldType} {W : Nat} {g : JFrame}
    (hM : own_Met l Z y bytes maxL ret rm (.ref a :: argsL).toArray h Qc) (E : Exa Z h a y.cls) (hown : s.vm.findClass own = some m.cls) (w1 : (Jvm.Cond.methodLink own index y).before a0 Z = true) (w2 : (Jvm.Cond.declares y).before a0 Z = true) (w3 : (Jvm.Cond.selects y.cls y y).before a0 Z = true) (w4 : (Jvm.Cond.instanceMethod y).before a0 Z = true) (w5 : (Jvm.Cond.initialized y.cls).before a0 Z = true) (w6 : (Jvm.Cond.code y bytes maxL ret).before a0 Z = true)
    (hy : y.cls ≠ "java/lang/invoke/MethodHandle" ∧ y.cls ≠ "java/lang/invoke/VarHandle") (eT : T.heap = h) (hg : g.method = m) (hsize : g.locals.size = c.maxLocals) (hdesc : parseMethodDescriptor y.desc = some ⟨ps, ret⟩) (hlen : argsL.length = ps.length) (hstack : g.stack = argsL.reverse ++ .ref a :: rest)
    (hW : 2 * g.monitorRoom + (rest.map fun v => v.category).sum ≤ W) (hdg : decode c.code g.pc = .ok (.invokevirtual index, 3)) (hf : rm.frames + 1 ≤ R.frames) (hl : W + (maxL + 11) + rm.locals ≤ R.locals) (hc : cells + rm.cells ≤ R.cells) (hs : slots + rm.slots ≤ R.slots) :
    ∃ v T' L, Stand p l e R s m args below meth c T' (locs ++ L) (cells + rm.cells) (slots + rm.slots) ∧ Qc v T'.heap L ∧ ∀ target, Steps p.tables e below (T'.setTop { g with pc := g.pc + 3, stack := v.toList ++ rest }) target → Steps p.tables e below (T.setTop g) target := by
  obtain ⟨cq, kq, qa, qb, qc⟩ := isOf hZ eT E
  obtain ⟨v, _, ⟨T1, L1, k1, n1⟩, -, X1, ⟨L, hQ, q1, q2, q3⟩, st⟩ := X.virtualBack hx (y := y) (z := y) hown (mvT hZ w1) (mvT hZ w2) (notFace_of_selects (args := #[]) (mvT hZ w3)) (mvT hZ w3) (mvT hZ w4) hy (backOf (W := W) hM hZ w6 w5 hf hl) qa qc (g := g) hg hsize (Steps.refl _) (lenOf hdesc hlen) hstack hW hdg (fun _ _ => ⟨rfl, eT, hc, hs⟩)
  dsimp only [Pt.U, Pt.locs, Pt.cells, Pt.slots] at X1 q1 q2 q3 st hQ
  subst q1 q2 q3
  exact ⟨v, T1, L, X1, hQ, fun _ q => st.trans q⟩
/-- what a body that writes nothing leaves -/
abbrev own_P (v : Option Value) (h : Heap) : Option Value → Heap → List Loc → Prop := fun w h' L => w = v ∧ L = [] ∧ h' = h
theorem own_flat (X : Stand p l e R s m args below meth c T (locs ++ []) (cells + 0) (slots + 0)) : Stand p l e R s m args below meth c T locs cells slots := by
  rw [List.append_nil] at X
  exact X
def own_c32 : ClassFile.Cond → Int32 → Int32 → Bool
  | .lt, x, y => decide (x < y)
  | .ge, x, y => !decide (x < y)
  | .gt, x, y => decide (y < x)
  | .le, x, y => !decide (y < x)
  | .eq, x, y => decide (x = y)
  | .ne, x, y => !decide (x = y)
def own_c64 : ClassFile.Cond → Int64 → Int64 → Bool
  | .lt, x, y => decide (x < y)
  | .ge, x, y => !decide (x < y)
  | .gt, x, y => decide (y < x)
  | .le, x, y => !decide (y < x)
  | .eq, x, y => decide (x = y)
  | .ne, x, y => !decide (x = y)
theorem own_yes {P : Prop} [Decidable P] (q : P) : decide P = true := decide_eq_true q
theorem own_no {P : Prop} [Decidable P] (q : ¬ P) : decide P = false := decide_eq_false q
theorem own_nyes {P : Prop} [Decidable P] (q : P) : (!decide P) = false := by rw [decide_eq_true q]; rfl
theorem own_nno {P : Prop} [Decidable P] (q : ¬ P) : (!decide P) = true := by rw [decide_eq_false q]; rfl
theorem own_i2 (cd : ClassFile.Cond) (x y : Int32) : if_icmp.holds cd x y = own_c32 cd x y := by
  cases cd
  case lt => by_cases q : x < y; · exact (tlt q).1.trans (own_yes q).symm
             · exact (flt q).1.trans (own_no q).symm
  case ge => by_cases q : x < y; · exact (tlt q).2.1.trans (own_nyes q).symm
             · exact (flt q).2.1.trans (own_nno q).symm
  case gt => by_cases q : y < x; · exact (tlt q).2.2.1.trans (own_yes q).symm
             · exact (flt q).2.2.1.trans (own_no q).symm
  case le => by_cases q : y < x; · exact (tlt q).2.2.2.trans (own_nyes q).symm
             · exact (flt q).2.2.2.trans (own_nno q).symm
  case eq => by_cases q : x = y; · exact (teq q).1.trans (own_yes q).symm
             · exact (feq q).1.trans (own_no q).symm
  case ne => by_cases q : x = y; · exact (teq q).2.trans (own_nyes q).symm
             · exact (feq q).2.trans (own_nno q).symm
theorem own_i0 (cd : ClassFile.Cond) (x : Int32) : ifCond.holds cd x = own_c32 cd x 0 := (if0 cd x).trans (own_i2 cd x 0)
theorem own_l0 (cd : ClassFile.Cond) (x y : Int64) : ifCond.holds cd (lcmpW x y) = own_c64 cd x y := by
  rw [own_i0]
  have q1 := lw_lt x y
  have q2 := lw_gt x y
  have q3 := lw_eq x y
  cases cd <;> simp only [own_c32, own_c64, q1, q2, q3]
theorem own_ldI {a : Addr} {k : ClassId} {z j : Int32} {vs : List Value} {dv : Value} (F : Arv Z h a k .int z vs dv) (q : ¬ j < 0 ∧ j < z) : ∃ (cl : Cell) (v : Int32), Arr Z h a cl .int ∧ ¬ (j < 0 ∨ cl.slots.size ≤ j.toNatClampNeg) ∧ cl.slots[j.toNatClampNeg]? = some (.int v) := by
  obtain ⟨cl, A, -, S, M, H, G⟩ := F
  have hin := inb_of S q
  have hlt : j.toNatClampNeg < cl.slots.size := Nat.lt_of_not_le fun y => hin (Or.inr y)
  obtain ⟨v, hv⟩ := fit_I (G _ hlt) (Or.inl rfl)
  exact ⟨cl, v, A, hin, by rw [H _ hlt, hv]⟩
theorem own_len {a : Addr} {k : ClassId} {ty : FieldType} {z : Int32} {vs : List Value} {dv : Value} (F : Arv Z h a k ty z vs dv) : ∃ cl : Cell, Arr Z h a cl ty ∧ cl.slots.size = z.toNatClampNeg ∧ ¬ z < 0 := by
  obtain ⟨cl, A, -, S, M, -, -⟩ := F
  exact ⟨cl, A, S, M⟩
theorem own_at {a : Addr} {k : ClassId} {ty : FieldType} {z j : Int32} {vs : List Value} {dv : Value} (F : Arv Z h a k ty z vs dv) (q : ¬ j < 0 ∧ j < z) {i : Nat} (hj : j.toNatClampNeg = i) {v : Value} (hv : vs.getD i dv = v) : ∃ cl : Cell, Arr Z h a cl ty ∧ ¬ (j < 0 ∨ cl.slots.size ≤ j.toNatClampNeg) ∧ cl.slots[j.toNatClampNeg]? = some v := by
  obtain ⟨cl, A, -, S, M, H, -⟩ := F
  have hin := inb_of S q
  have hlt : j.toNatClampNeg < cl.slots.size := Nat.lt_of_not_le fun y => hin (Or.inr y)
  refine ⟨cl, A, hin, ?_⟩
  rw [H _ hlt, hj, hv]
end OwnKit

theorem pd_0 : parseMethodDescriptor "(JI)J" = some ⟨[.long, .int], some .long⟩ := by decide +kernel
theorem pd_1 : parseMethodDescriptor "(J)J" = some ⟨[.long], some .long⟩ := by decide +kernel
def own_sh (x : Int64) (s : Int32) : Int64 := ((x.toUInt64 >>> (s &&& 0x3f).toInt64.toUInt64).toInt64)
def own_a (q0 : Int64) (p1 : Int32) : Int64 := q0 + p1.toInt64 * (-7046029254386353131 : Int64)
def own_b (q0 : Int64) (p1 : Int32) : Int64 := (own_a q0 p1 ^^^ own_sh (own_a q0 p1) 30) * (-4658895280553007687 : Int64)
def own_c (q0 : Int64) (p1 : Int32) : Int64 := (own_b q0 p1 ^^^ own_sh (own_b q0 p1) 27) * (-7723592293110705685 : Int64)
def own_d (q0 : Int64) (p1 : Int32) : Int64 := own_c q0 p1 ^^^ own_sh (own_c q0 p1) 31
def own_uns (q0 : Int64) (p1 : Int32) : Int64 := (q0 ^^^ own_sh q0 p1) ^^^ own_sh q0 ((2 : Int32) * p1)
def own_nx (q0 x : Int64) : Int64 := x * ((2 : Int64) - q0 * x)
def own_inv (q0 : Int64) : Int64 := own_nx q0 (own_nx q0 (own_nx q0 (own_nx q0 (own_nx q0 q0))))
theorem d1_0 : decode prog_56_method_2_code 0 = .ok (.lload_n 0, 1) := by decide +kernel
theorem d1_1 : decode prog_56_method_2_code 1 = .ok (.iload_n 2, 1) := by decide +kernel
theorem d1_2 : decode prog_56_method_2_code 2 = .ok (.i2l, 1) := by decide +kernel
theorem d1_3 : decode prog_56_method_2_code 3 = .ok (.ldc2_w 7, 3) := by decide +kernel
theorem d1_6 : decode prog_56_method_2_code 6 = .ok (.lmul, 1) := by decide +kernel
theorem d1_7 : decode prog_56_method_2_code 7 = .ok (.ladd, 1) := by decide +kernel
theorem d1_8 : decode prog_56_method_2_code 8 = .ok (.lstore_n 3, 1) := by decide +kernel
theorem d1_9 : decode prog_56_method_2_code 9 = .ok (.lload_n 3, 1) := by decide +kernel
theorem d1_10 : decode prog_56_method_2_code 10 = .ok (.lload_n 3, 1) := by decide +kernel
theorem d1_11 : decode prog_56_method_2_code 11 = .ok (.bipush 30, 2) := by decide +kernel
theorem d1_13 : decode prog_56_method_2_code 13 = .ok (.lushr, 1) := by decide +kernel
theorem d1_14 : decode prog_56_method_2_code 14 = .ok (.lxor, 1) := by decide +kernel
theorem d1_15 : decode prog_56_method_2_code 15 = .ok (.ldc2_w 9, 3) := by decide +kernel
theorem d1_18 : decode prog_56_method_2_code 18 = .ok (.lmul, 1) := by decide +kernel
theorem d1_19 : decode prog_56_method_2_code 19 = .ok (.lstore_n 3, 1) := by decide +kernel
theorem d1_20 : decode prog_56_method_2_code 20 = .ok (.lload_n 3, 1) := by decide +kernel
theorem d1_21 : decode prog_56_method_2_code 21 = .ok (.lload_n 3, 1) := by decide +kernel
theorem d1_22 : decode prog_56_method_2_code 22 = .ok (.bipush 27, 2) := by decide +kernel
theorem d1_24 : decode prog_56_method_2_code 24 = .ok (.lushr, 1) := by decide +kernel
theorem d1_25 : decode prog_56_method_2_code 25 = .ok (.lxor, 1) := by decide +kernel
theorem d1_26 : decode prog_56_method_2_code 26 = .ok (.ldc2_w 11, 3) := by decide +kernel
theorem d1_29 : decode prog_56_method_2_code 29 = .ok (.lmul, 1) := by decide +kernel
theorem d1_30 : decode prog_56_method_2_code 30 = .ok (.lstore_n 3, 1) := by decide +kernel
theorem d1_31 : decode prog_56_method_2_code 31 = .ok (.lload_n 3, 1) := by decide +kernel
theorem d1_32 : decode prog_56_method_2_code 32 = .ok (.lload_n 3, 1) := by decide +kernel
theorem d1_33 : decode prog_56_method_2_code 33 = .ok (.bipush 31, 2) := by decide +kernel
theorem d1_35 : decode prog_56_method_2_code 35 = .ok (.lushr, 1) := by decide +kernel
theorem d1_36 : decode prog_56_method_2_code 36 = .ok (.lxor, 1) := by decide +kernel
theorem d1_37 : decode prog_56_method_2_code 37 = .ok (.lreturn, 1) := by decide +kernel
theorem pn_1 : plainFor (⟨"com/example/accordant/accordant/Seeds", "derived", "(JI)J"⟩ : MethodName) = true := plainFor_of_name (by first | (simp [plainName, overriddenIn]; done) | decide +kernel)
theorem ef_1 (m : MethodId) (x0 : Int64) (x1 : Int32) : entryFrame m #[(.long x0), (.int x1)] 5 = mkF m 0 #[.val (.long x0), .second, .val (.int x1), .unset, .unset] [] := by first | (simp [entryFrame, mkF, argsToLocals, Value.category]; done) | rfl
set_option maxRecDepth 65536 in
set_option maxHeartbeats 40000000 in
theorem rm1 (l : Launch) (Z : State) (tA : Array Value) (hw : ∀ d ∈ tables_1, d.before tA Z = true) (q0 : Int64) (p1 : Int32) (h0 : Heap) :
    own_Met l Z (⟨"com/example/accordant/accordant/Seeds", "derived", "(JI)J"⟩ : MethodName) prog_56_method_2_code 5 (some .long) ({ frames := 0, cells := 0, slots := 0, locals := 0 } : Room) #[(.long q0), (.int p1)] h0 (own_P (some (.long (own_d q0 p1))) h0) := by
  refine own_body pn_1 ?_
  intro p e s m below meth c s₁ X0 hx hZ hby hml hown hret hlk hnm e0
  rw [ef_1]
  show own_Go p e below _ (s₁.setTop (mkF m 0 #[.val (.long q0), .second, .val (.int p1), .unset, .unset] []))
  refine own_st (fun _ k => XS.lloadN X0.here hx rfl (hb hby d1_0) rfl k) ?_
  show own_Go p e below _ (s₁.setTop (mkF m 1 #[.val (.long q0), .second, .val (.int p1), .unset, .unset] [(.long q0)]))
  refine own_st (fun _ k => XS.iloadN X0.here hx rfl (hb hby d1_1) rfl k) ?_
  show own_Go p e below _ (s₁.setTop (mkF m 2 #[.val (.long q0), .second, .val (.int p1), .unset, .unset] [(.int p1), (.long q0)]))
  refine own_st (fun _ k => XS.i2l X0.here hx rfl (hb hby d1_2) rfl k) ?_
  show own_Go p e below _ (s₁.setTop (mkF m 3 #[.val (.long q0), .second, .val (.int p1), .unset, .unset] [(.long (p1.toInt64)), (.long q0)]))
  refine own_st (fun _ k => X0.ldc2Long hx hown (mvT hZ (hw _ (List.mem_of_getElem? (i := 4) rfl))) (g := (mkF m 3 #[.val (.long q0), .second, .val (.int p1), .unset, .unset] [(.long (p1.toInt64)), (.long q0)])) rfl (hb hby d1_3) _ k) ?_
  show own_Go p e below _ (s₁.setTop (mkF m 6 #[.val (.long q0), .second, .val (.int p1), .unset, .unset] [(.long (-7046029254386353131 : Int64)), (.long (p1.toInt64)), (.long q0)]))
  refine own_st (fun _ k => XS.lmul X0.here hx rfl (hb hby d1_6) rfl k) ?_
  show own_Go p e below _ (s₁.setTop (mkF m 7 #[.val (.long q0), .second, .val (.int p1), .unset, .unset] [(.long ((p1.toInt64) * (-7046029254386353131 : Int64))), (.long q0)]))
  refine own_st (fun _ k => XS.ladd X0.here hx rfl (hb hby d1_7) rfl k) ?_
  show own_Go p e below _ (s₁.setTop (mkF m 8 #[.val (.long q0), .second, .val (.int p1), .unset, .unset] [(.long (q0 + ((p1.toInt64) * (-7046029254386353131 : Int64))))]))
  refine own_st (fun _ k => XS.lstoreN X0.here hx rfl (hb hby d1_8) rfl (l' := #[.val (.long q0), .second, .val (.int p1), .val (.long (q0 + ((p1.toInt64) * (-7046029254386353131 : Int64)))), .second]) rfl k) ?_
  show own_Go p e below _ (s₁.setTop (mkF m 9 #[.val (.long q0), .second, .val (.int p1), .val (.long (q0 + ((p1.toInt64) * (-7046029254386353131 : Int64)))), .second] []))
  show own_Go p e below _ (s₁.setTop (mkF m 9 #[.val (.long q0), .second, .val (.int p1), .val (.long (own_a q0 p1)), .second] []))
  refine own_st (fun _ k => XS.lloadN X0.here hx rfl (hb hby d1_9) rfl k) ?_
  show own_Go p e below _ (s₁.setTop (mkF m 10 #[.val (.long q0), .second, .val (.int p1), .val (.long (own_a q0 p1)), .second] [(.long (own_a q0 p1))]))
  refine own_st (fun _ k => XS.lloadN X0.here hx rfl (hb hby d1_10) rfl k) ?_
  show own_Go p e below _ (s₁.setTop (mkF m 11 #[.val (.long q0), .second, .val (.int p1), .val (.long (own_a q0 p1)), .second] [(.long (own_a q0 p1)), (.long (own_a q0 p1))]))
  refine own_st (fun _ k => XS.bipush X0.here hx rfl (hb hby d1_11) k) ?_
  show own_Go p e below _ (s₁.setTop (mkF m 13 #[.val (.long q0), .second, .val (.int p1), .val (.long (own_a q0 p1)), .second] [(.int (30 : Int32)), (.long (own_a q0 p1)), (.long (own_a q0 p1))]))
  refine own_st (fun _ k => XS.lushr X0.here hx rfl (hb hby d1_13) rfl k) ?_
  show own_Go p e below _ (s₁.setTop (mkF m 14 #[.val (.long q0), .second, .val (.int p1), .val (.long (own_a q0 p1)), .second] [(.long (((own_a q0 p1).toUInt64 >>> ((30 : Int32) &&& 0x3f).toInt64.toUInt64).toInt64)), (.long (own_a q0 p1))]))
  refine own_st (fun _ k => XS.lxor X0.here hx rfl (hb hby d1_14) rfl k) ?_
  show own_Go p e below _ (s₁.setTop (mkF m 15 #[.val (.long q0), .second, .val (.int p1), .val (.long (own_a q0 p1)), .second] [(.long ((own_a q0 p1) ^^^ (((own_a q0 p1).toUInt64 >>> ((30 : Int32) &&& 0x3f).toInt64.toUInt64).toInt64)))]))
  refine own_st (fun _ k => X0.ldc2Long hx hown (mvT hZ (hw _ (List.mem_of_getElem? (i := 5) rfl))) (g := (mkF m 15 #[.val (.long q0), .second, .val (.int p1), .val (.long (own_a q0 p1)), .second] [(.long ((own_a q0 p1) ^^^ (((own_a q0 p1).toUInt64 >>> ((30 : Int32) &&& 0x3f).toInt64.toUInt64).toInt64)))])) rfl (hb hby d1_15) _ k) ?_
  show own_Go p e below _ (s₁.setTop (mkF m 18 #[.val (.long q0), .second, .val (.int p1), .val (.long (own_a q0 p1)), .second] [(.long (-4658895280553007687 : Int64)), (.long ((own_a q0 p1) ^^^ (((own_a q0 p1).toUInt64 >>> ((30 : Int32) &&& 0x3f).toInt64.toUInt64).toInt64)))]))
  refine own_st (fun _ k => XS.lmul X0.here hx rfl (hb hby d1_18) rfl k) ?_
  show own_Go p e below _ (s₁.setTop (mkF m 19 #[.val (.long q0), .second, .val (.int p1), .val (.long (own_a q0 p1)), .second] [(.long (((own_a q0 p1) ^^^ (((own_a q0 p1).toUInt64 >>> ((30 : Int32) &&& 0x3f).toInt64.toUInt64).toInt64)) * (-4658895280553007687 : Int64)))]))
  refine own_st (fun _ k => XS.lstoreN X0.here hx rfl (hb hby d1_19) rfl (l' := #[.val (.long q0), .second, .val (.int p1), .val (.long (((own_a q0 p1) ^^^ (((own_a q0 p1).toUInt64 >>> ((30 : Int32) &&& 0x3f).toInt64.toUInt64).toInt64)) * (-4658895280553007687 : Int64))), .second]) rfl k) ?_
  show own_Go p e below _ (s₁.setTop (mkF m 20 #[.val (.long q0), .second, .val (.int p1), .val (.long (((own_a q0 p1) ^^^ (((own_a q0 p1).toUInt64 >>> ((30 : Int32) &&& 0x3f).toInt64.toUInt64).toInt64)) * (-4658895280553007687 : Int64))), .second] []))
  show own_Go p e below _ (s₁.setTop (mkF m 20 #[.val (.long q0), .second, .val (.int p1), .val (.long (own_b q0 p1)), .second] []))
  refine own_st (fun _ k => XS.lloadN X0.here hx rfl (hb hby d1_20) rfl k) ?_
  show own_Go p e below _ (s₁.setTop (mkF m 21 #[.val (.long q0), .second, .val (.int p1), .val (.long (own_b q0 p1)), .second] [(.long (own_b q0 p1))]))
  refine own_st (fun _ k => XS.lloadN X0.here hx rfl (hb hby d1_21) rfl k) ?_
  show own_Go p e below _ (s₁.setTop (mkF m 22 #[.val (.long q0), .second, .val (.int p1), .val (.long (own_b q0 p1)), .second] [(.long (own_b q0 p1)), (.long (own_b q0 p1))]))
  refine own_st (fun _ k => XS.bipush X0.here hx rfl (hb hby d1_22) k) ?_
  show own_Go p e below _ (s₁.setTop (mkF m 24 #[.val (.long q0), .second, .val (.int p1), .val (.long (own_b q0 p1)), .second] [(.int (27 : Int32)), (.long (own_b q0 p1)), (.long (own_b q0 p1))]))
  refine own_st (fun _ k => XS.lushr X0.here hx rfl (hb hby d1_24) rfl k) ?_
  show own_Go p e below _ (s₁.setTop (mkF m 25 #[.val (.long q0), .second, .val (.int p1), .val (.long (own_b q0 p1)), .second] [(.long (((own_b q0 p1).toUInt64 >>> ((27 : Int32) &&& 0x3f).toInt64.toUInt64).toInt64)), (.long (own_b q0 p1))]))
  refine own_st (fun _ k => XS.lxor X0.here hx rfl (hb hby d1_25) rfl k) ?_
  show own_Go p e below _ (s₁.setTop (mkF m 26 #[.val (.long q0), .second, .val (.int p1), .val (.long (own_b q0 p1)), .second] [(.long ((own_b q0 p1) ^^^ (((own_b q0 p1).toUInt64 >>> ((27 : Int32) &&& 0x3f).toInt64.toUInt64).toInt64)))]))
  refine own_st (fun _ k => X0.ldc2Long hx hown (mvT hZ (hw _ (List.mem_of_getElem? (i := 6) rfl))) (g := (mkF m 26 #[.val (.long q0), .second, .val (.int p1), .val (.long (own_b q0 p1)), .second] [(.long ((own_b q0 p1) ^^^ (((own_b q0 p1).toUInt64 >>> ((27 : Int32) &&& 0x3f).toInt64.toUInt64).toInt64)))])) rfl (hb hby d1_26) _ k) ?_
  show own_Go p e below _ (s₁.setTop (mkF m 29 #[.val (.long q0), .second, .val (.int p1), .val (.long (own_b q0 p1)), .second] [(.long (-7723592293110705685 : Int64)), (.long ((own_b q0 p1) ^^^ (((own_b q0 p1).toUInt64 >>> ((27 : Int32) &&& 0x3f).toInt64.toUInt64).toInt64)))]))
  refine own_st (fun _ k => XS.lmul X0.here hx rfl (hb hby d1_29) rfl k) ?_
  show own_Go p e below _ (s₁.setTop (mkF m 30 #[.val (.long q0), .second, .val (.int p1), .val (.long (own_b q0 p1)), .second] [(.long (((own_b q0 p1) ^^^ (((own_b q0 p1).toUInt64 >>> ((27 : Int32) &&& 0x3f).toInt64.toUInt64).toInt64)) * (-7723592293110705685 : Int64)))]))
  refine own_st (fun _ k => XS.lstoreN X0.here hx rfl (hb hby d1_30) rfl (l' := #[.val (.long q0), .second, .val (.int p1), .val (.long (((own_b q0 p1) ^^^ (((own_b q0 p1).toUInt64 >>> ((27 : Int32) &&& 0x3f).toInt64.toUInt64).toInt64)) * (-7723592293110705685 : Int64))), .second]) rfl k) ?_
  show own_Go p e below _ (s₁.setTop (mkF m 31 #[.val (.long q0), .second, .val (.int p1), .val (.long (((own_b q0 p1) ^^^ (((own_b q0 p1).toUInt64 >>> ((27 : Int32) &&& 0x3f).toInt64.toUInt64).toInt64)) * (-7723592293110705685 : Int64))), .second] []))
  show own_Go p e below _ (s₁.setTop (mkF m 31 #[.val (.long q0), .second, .val (.int p1), .val (.long (own_c q0 p1)), .second] []))
  refine own_st (fun _ k => XS.lloadN X0.here hx rfl (hb hby d1_31) rfl k) ?_
  show own_Go p e below _ (s₁.setTop (mkF m 32 #[.val (.long q0), .second, .val (.int p1), .val (.long (own_c q0 p1)), .second] [(.long (own_c q0 p1))]))
  refine own_st (fun _ k => XS.lloadN X0.here hx rfl (hb hby d1_32) rfl k) ?_
  show own_Go p e below _ (s₁.setTop (mkF m 33 #[.val (.long q0), .second, .val (.int p1), .val (.long (own_c q0 p1)), .second] [(.long (own_c q0 p1)), (.long (own_c q0 p1))]))
  refine own_st (fun _ k => XS.bipush X0.here hx rfl (hb hby d1_33) k) ?_
  show own_Go p e below _ (s₁.setTop (mkF m 35 #[.val (.long q0), .second, .val (.int p1), .val (.long (own_c q0 p1)), .second] [(.int (31 : Int32)), (.long (own_c q0 p1)), (.long (own_c q0 p1))]))
  refine own_st (fun _ k => XS.lushr X0.here hx rfl (hb hby d1_35) rfl k) ?_
  show own_Go p e below _ (s₁.setTop (mkF m 36 #[.val (.long q0), .second, .val (.int p1), .val (.long (own_c q0 p1)), .second] [(.long (((own_c q0 p1).toUInt64 >>> ((31 : Int32) &&& 0x3f).toInt64.toUInt64).toInt64)), (.long (own_c q0 p1))]))
  refine own_st (fun _ k => XS.lxor X0.here hx rfl (hb hby d1_36) rfl k) ?_
  show own_Go p e below _ (s₁.setTop (mkF m 37 #[.val (.long q0), .second, .val (.int p1), .val (.long (own_c q0 p1)), .second] [(.long ((own_c q0 p1) ^^^ (((own_c q0 p1).toUInt64 >>> ((31 : Int32) &&& 0x3f).toInt64.toUInt64).toInt64)))]))
  exact own_retJ X0 hx hlk hret (hb hby d1_37) ⟨rfl, rfl, e0⟩ (by decide) (by decide)
theorem d2_0 : decode method_3_code 0 = .ok (.lload_n 0, 1) := by decide +kernel
theorem d2_1 : decode method_3_code 1 = .ok (.lload_n 0, 1) := by decide +kernel
theorem d2_2 : decode method_3_code 2 = .ok (.iload_n 2, 1) := by decide +kernel
theorem d2_3 : decode method_3_code 3 = .ok (.lushr, 1) := by decide +kernel
theorem d2_4 : decode method_3_code 4 = .ok (.lxor, 1) := by decide +kernel
theorem d2_5 : decode method_3_code 5 = .ok (.lload_n 0, 1) := by decide +kernel
theorem d2_6 : decode method_3_code 6 = .ok (.iconst 2, 1) := by decide +kernel
theorem d2_7 : decode method_3_code 7 = .ok (.iload_n 2, 1) := by decide +kernel
theorem d2_8 : decode method_3_code 8 = .ok (.imul, 1) := by decide +kernel
theorem d2_9 : decode method_3_code 9 = .ok (.lushr, 1) := by decide +kernel
theorem d2_10 : decode method_3_code 10 = .ok (.lxor, 1) := by decide +kernel
theorem d2_11 : decode method_3_code 11 = .ok (.lreturn, 1) := by decide +kernel
theorem pn_2 : plainFor (⟨"com/example/accordant/accordant/SeedsDerivedPinLaw", "unshift", "(JI)J"⟩ : MethodName) = true := plainFor_of_name (by first | (simp [plainName, overriddenIn]; done) | decide +kernel)
theorem ef_2 (m : MethodId) (x0 : Int64) (x1 : Int32) : entryFrame m #[(.long x0), (.int x1)] 3 = mkF m 0 #[.val (.long x0), .second, .val (.int x1)] [] := by first | (simp [entryFrame, mkF, argsToLocals, Value.category]; done) | rfl
set_option maxRecDepth 65536 in
set_option maxHeartbeats 40000000 in
theorem rm2 (l : Launch) (Z : State) (tA : Array Value) (hw : ∀ d ∈ tables_1, d.before tA Z = true) (q0 : Int64) (p1 : Int32) (h0 : Heap) :
    own_Met l Z (⟨"com/example/accordant/accordant/SeedsDerivedPinLaw", "unshift", "(JI)J"⟩ : MethodName) method_3_code 3 (some .long) ({ frames := 0, cells := 0, slots := 0, locals := 0 } : Room) #[(.long q0), (.int p1)] h0 (own_P (some (.long (own_uns q0 p1))) h0) := by
  refine own_body pn_2 ?_
  intro p e s m below meth c s₁ X0 hx hZ hby hml hown hret hlk hnm e0
  rw [ef_2]
  show own_Go p e below _ (s₁.setTop (mkF m 0 #[.val (.long q0), .second, .val (.int p1)] []))
  refine own_st (fun _ k => XS.lloadN X0.here hx rfl (hb hby d2_0) rfl k) ?_
  show own_Go p e below _ (s₁.setTop (mkF m 1 #[.val (.long q0), .second, .val (.int p1)] [(.long q0)]))
  refine own_st (fun _ k => XS.lloadN X0.here hx rfl (hb hby d2_1) rfl k) ?_
  show own_Go p e below _ (s₁.setTop (mkF m 2 #[.val (.long q0), .second, .val (.int p1)] [(.long q0), (.long q0)]))
  refine own_st (fun _ k => XS.iloadN X0.here hx rfl (hb hby d2_2) rfl k) ?_
  show own_Go p e below _ (s₁.setTop (mkF m 3 #[.val (.long q0), .second, .val (.int p1)] [(.int p1), (.long q0), (.long q0)]))
  refine own_st (fun _ k => XS.lushr X0.here hx rfl (hb hby d2_3) rfl k) ?_
  show own_Go p e below _ (s₁.setTop (mkF m 4 #[.val (.long q0), .second, .val (.int p1)] [(.long ((q0.toUInt64 >>> (p1 &&& 0x3f).toInt64.toUInt64).toInt64)), (.long q0)]))
  refine own_st (fun _ k => XS.lxor X0.here hx rfl (hb hby d2_4) rfl k) ?_
  show own_Go p e below _ (s₁.setTop (mkF m 5 #[.val (.long q0), .second, .val (.int p1)] [(.long (q0 ^^^ ((q0.toUInt64 >>> (p1 &&& 0x3f).toInt64.toUInt64).toInt64)))]))
  refine own_st (fun _ k => XS.lloadN X0.here hx rfl (hb hby d2_5) rfl k) ?_
  show own_Go p e below _ (s₁.setTop (mkF m 6 #[.val (.long q0), .second, .val (.int p1)] [(.long q0), (.long (q0 ^^^ ((q0.toUInt64 >>> (p1 &&& 0x3f).toInt64.toUInt64).toInt64)))]))
  refine own_st (fun _ k => XS.iconst X0.here hx rfl (hb hby d2_6) k) ?_
  show own_Go p e below _ (s₁.setTop (mkF m 7 #[.val (.long q0), .second, .val (.int p1)] [(.int (2 : Int32)), (.long q0), (.long (q0 ^^^ ((q0.toUInt64 >>> (p1 &&& 0x3f).toInt64.toUInt64).toInt64)))]))
  refine own_st (fun _ k => XS.iloadN X0.here hx rfl (hb hby d2_7) rfl k) ?_
  show own_Go p e below _ (s₁.setTop (mkF m 8 #[.val (.long q0), .second, .val (.int p1)] [(.int p1), (.int (2 : Int32)), (.long q0), (.long (q0 ^^^ ((q0.toUInt64 >>> (p1 &&& 0x3f).toInt64.toUInt64).toInt64)))]))
  refine own_st (fun _ k => XS.imul X0.here hx rfl (hb hby d2_8) rfl k) ?_
  show own_Go p e below _ (s₁.setTop (mkF m 9 #[.val (.long q0), .second, .val (.int p1)] [(.int ((2 : Int32) * p1)), (.long q0), (.long (q0 ^^^ ((q0.toUInt64 >>> (p1 &&& 0x3f).toInt64.toUInt64).toInt64)))]))
  refine own_st (fun _ k => XS.lushr X0.here hx rfl (hb hby d2_9) rfl k) ?_
  show own_Go p e below _ (s₁.setTop (mkF m 10 #[.val (.long q0), .second, .val (.int p1)] [(.long ((q0.toUInt64 >>> (((2 : Int32) * p1) &&& 0x3f).toInt64.toUInt64).toInt64)), (.long (q0 ^^^ ((q0.toUInt64 >>> (p1 &&& 0x3f).toInt64.toUInt64).toInt64)))]))
  refine own_st (fun _ k => XS.lxor X0.here hx rfl (hb hby d2_10) rfl k) ?_
  show own_Go p e below _ (s₁.setTop (mkF m 11 #[.val (.long q0), .second, .val (.int p1)] [(.long ((q0 ^^^ ((q0.toUInt64 >>> (p1 &&& 0x3f).toInt64.toUInt64).toInt64)) ^^^ ((q0.toUInt64 >>> (((2 : Int32) * p1) &&& 0x3f).toInt64.toUInt64).toInt64)))]))
  exact own_retJ X0 hx hlk hret (hb hby d2_11) ⟨rfl, rfl, e0⟩ (by decide) (by decide)
theorem d3_0 : decode method_2_code 0 = .ok (.lload_n 0, 1) := by decide +kernel
theorem d3_1 : decode method_2_code 1 = .ok (.lstore_n 2, 1) := by decide +kernel
theorem d3_2 : decode method_2_code 2 = .ok (.lload_n 2, 1) := by decide +kernel
theorem d3_3 : decode method_2_code 3 = .ok (.ldc2_w 7, 3) := by decide +kernel
theorem d3_6 : decode method_2_code 6 = .ok (.lload_n 0, 1) := by decide +kernel
theorem d3_7 : decode method_2_code 7 = .ok (.lload_n 2, 1) := by decide +kernel
theorem d3_8 : decode method_2_code 8 = .ok (.lmul, 1) := by decide +kernel
theorem d3_9 : decode method_2_code 9 = .ok (.lsub, 1) := by decide +kernel
theorem d3_10 : decode method_2_code 10 = .ok (.lmul, 1) := by decide +kernel
theorem d3_11 : decode method_2_code 11 = .ok (.lstore_n 2, 1) := by decide +kernel
theorem d3_12 : decode method_2_code 12 = .ok (.lload_n 2, 1) := by decide +kernel
theorem d3_13 : decode method_2_code 13 = .ok (.ldc2_w 7, 3) := by decide +kernel
theorem d3_16 : decode method_2_code 16 = .ok (.lload_n 0, 1) := by decide +kernel
theorem d3_17 : decode method_2_code 17 = .ok (.lload_n 2, 1) := by decide +kernel
theorem d3_18 : decode method_2_code 18 = .ok (.lmul, 1) := by decide +kernel
theorem d3_19 : decode method_2_code 19 = .ok (.lsub, 1) := by decide +kernel
theorem d3_20 : decode method_2_code 20 = .ok (.lmul, 1) := by decide +kernel
theorem d3_21 : decode method_2_code 21 = .ok (.lstore_n 2, 1) := by decide +kernel
theorem d3_22 : decode method_2_code 22 = .ok (.lload_n 2, 1) := by decide +kernel
theorem d3_23 : decode method_2_code 23 = .ok (.ldc2_w 7, 3) := by decide +kernel
theorem d3_26 : decode method_2_code 26 = .ok (.lload_n 0, 1) := by decide +kernel
theorem d3_27 : decode method_2_code 27 = .ok (.lload_n 2, 1) := by decide +kernel
theorem d3_28 : decode method_2_code 28 = .ok (.lmul, 1) := by decide +kernel
theorem d3_29 : decode method_2_code 29 = .ok (.lsub, 1) := by decide +kernel
theorem d3_30 : decode method_2_code 30 = .ok (.lmul, 1) := by decide +kernel
theorem d3_31 : decode method_2_code 31 = .ok (.lstore_n 2, 1) := by decide +kernel
theorem d3_32 : decode method_2_code 32 = .ok (.lload_n 2, 1) := by decide +kernel
theorem d3_33 : decode method_2_code 33 = .ok (.ldc2_w 7, 3) := by decide +kernel
theorem d3_36 : decode method_2_code 36 = .ok (.lload_n 0, 1) := by decide +kernel
theorem d3_37 : decode method_2_code 37 = .ok (.lload_n 2, 1) := by decide +kernel
theorem d3_38 : decode method_2_code 38 = .ok (.lmul, 1) := by decide +kernel
theorem d3_39 : decode method_2_code 39 = .ok (.lsub, 1) := by decide +kernel
theorem d3_40 : decode method_2_code 40 = .ok (.lmul, 1) := by decide +kernel
theorem d3_41 : decode method_2_code 41 = .ok (.lstore_n 2, 1) := by decide +kernel
theorem d3_42 : decode method_2_code 42 = .ok (.lload_n 2, 1) := by decide +kernel
theorem d3_43 : decode method_2_code 43 = .ok (.ldc2_w 7, 3) := by decide +kernel
theorem d3_46 : decode method_2_code 46 = .ok (.lload_n 0, 1) := by decide +kernel
theorem d3_47 : decode method_2_code 47 = .ok (.lload_n 2, 1) := by decide +kernel
theorem d3_48 : decode method_2_code 48 = .ok (.lmul, 1) := by decide +kernel
theorem d3_49 : decode method_2_code 49 = .ok (.lsub, 1) := by decide +kernel
theorem d3_50 : decode method_2_code 50 = .ok (.lmul, 1) := by decide +kernel
theorem d3_51 : decode method_2_code 51 = .ok (.lstore_n 2, 1) := by decide +kernel
theorem d3_52 : decode method_2_code 52 = .ok (.lload_n 2, 1) := by decide +kernel
theorem d3_53 : decode method_2_code 53 = .ok (.lreturn, 1) := by decide +kernel
theorem pn_3 : plainFor (⟨"com/example/accordant/accordant/SeedsDerivedPinLaw", "inverse", "(J)J"⟩ : MethodName) = true := plainFor_of_name (by first | (simp [plainName, overriddenIn]; done) | decide +kernel)
theorem ef_3 (m : MethodId) (x0 : Int64) : entryFrame m #[(.long x0)] 4 = mkF m 0 #[.val (.long x0), .second, .unset, .unset] [] := by first | (simp [entryFrame, mkF, argsToLocals, Value.category]; done) | rfl
set_option maxRecDepth 65536 in
set_option maxHeartbeats 40000000 in
theorem rm3 (l : Launch) (Z : State) (tA : Array Value) (hw : ∀ d ∈ tables_1, d.before tA Z = true) (q0 : Int64) (h0 : Heap) :
    own_Met l Z (⟨"com/example/accordant/accordant/SeedsDerivedPinLaw", "inverse", "(J)J"⟩ : MethodName) method_2_code 4 (some .long) ({ frames := 0, cells := 0, slots := 0, locals := 0 } : Room) #[(.long q0)] h0 (own_P (some (.long (own_inv q0))) h0) := by
  refine own_body pn_3 ?_
  intro p e s m below meth c s₁ X0 hx hZ hby hml hown hret hlk hnm e0
  rw [ef_3]
  show own_Go p e below _ (s₁.setTop (mkF m 0 #[.val (.long q0), .second, .unset, .unset] []))
  refine own_st (fun _ k => XS.lloadN X0.here hx rfl (hb hby d3_0) rfl k) ?_
  show own_Go p e below _ (s₁.setTop (mkF m 1 #[.val (.long q0), .second, .unset, .unset] [(.long q0)]))
  refine own_st (fun _ k => XS.lstoreN X0.here hx rfl (hb hby d3_1) rfl (l' := #[.val (.long q0), .second, .val (.long q0), .second]) rfl k) ?_
  show own_Go p e below _ (s₁.setTop (mkF m 2 #[.val (.long q0), .second, .val (.long q0), .second] []))
  refine own_st (fun _ k => XS.lloadN X0.here hx rfl (hb hby d3_2) rfl k) ?_
  show own_Go p e below _ (s₁.setTop (mkF m 3 #[.val (.long q0), .second, .val (.long q0), .second] [(.long q0)]))
  refine own_st (fun _ k => X0.ldc2Long hx hown (mvT hZ (hw _ (List.mem_of_getElem? (i := 15) rfl))) (g := (mkF m 3 #[.val (.long q0), .second, .val (.long q0), .second] [(.long q0)])) rfl (hb hby d3_3) _ k) ?_
  show own_Go p e below _ (s₁.setTop (mkF m 6 #[.val (.long q0), .second, .val (.long q0), .second] [(.long (2 : Int64)), (.long q0)]))
  refine own_st (fun _ k => XS.lloadN X0.here hx rfl (hb hby d3_6) rfl k) ?_
  show own_Go p e below _ (s₁.setTop (mkF m 7 #[.val (.long q0), .second, .val (.long q0), .second] [(.long q0), (.long (2 : Int64)), (.long q0)]))
  refine own_st (fun _ k => XS.lloadN X0.here hx rfl (hb hby d3_7) rfl k) ?_
  show own_Go p e below _ (s₁.setTop (mkF m 8 #[.val (.long q0), .second, .val (.long q0), .second] [(.long q0), (.long q0), (.long (2 : Int64)), (.long q0)]))
  refine own_st (fun _ k => XS.lmul X0.here hx rfl (hb hby d3_8) rfl k) ?_
  show own_Go p e below _ (s₁.setTop (mkF m 9 #[.val (.long q0), .second, .val (.long q0), .second] [(.long (q0 * q0)), (.long (2 : Int64)), (.long q0)]))
  refine own_st (fun _ k => XS.lsub X0.here hx rfl (hb hby d3_9) rfl k) ?_
  show own_Go p e below _ (s₁.setTop (mkF m 10 #[.val (.long q0), .second, .val (.long q0), .second] [(.long ((2 : Int64) - (q0 * q0))), (.long q0)]))
  refine own_st (fun _ k => XS.lmul X0.here hx rfl (hb hby d3_10) rfl k) ?_
  show own_Go p e below _ (s₁.setTop (mkF m 11 #[.val (.long q0), .second, .val (.long q0), .second] [(.long (q0 * ((2 : Int64) - (q0 * q0))))]))
  refine own_st (fun _ k => XS.lstoreN X0.here hx rfl (hb hby d3_11) rfl (l' := #[.val (.long q0), .second, .val (.long (q0 * ((2 : Int64) - (q0 * q0)))), .second]) rfl k) ?_
  show own_Go p e below _ (s₁.setTop (mkF m 12 #[.val (.long q0), .second, .val (.long (q0 * ((2 : Int64) - (q0 * q0)))), .second] []))
  show own_Go p e below _ (s₁.setTop (mkF m 12 #[.val (.long q0), .second, .val (.long (own_nx q0 q0)), .second] []))
  refine own_st (fun _ k => XS.lloadN X0.here hx rfl (hb hby d3_12) rfl k) ?_
  show own_Go p e below _ (s₁.setTop (mkF m 13 #[.val (.long q0), .second, .val (.long (own_nx q0 q0)), .second] [(.long (own_nx q0 q0))]))
  refine own_st (fun _ k => X0.ldc2Long hx hown (mvT hZ (hw _ (List.mem_of_getElem? (i := 15) rfl))) (g := (mkF m 13 #[.val (.long q0), .second, .val (.long (own_nx q0 q0)), .second] [(.long (own_nx q0 q0))])) rfl (hb hby d3_13) _ k) ?_
  show own_Go p e below _ (s₁.setTop (mkF m 16 #[.val (.long q0), .second, .val (.long (own_nx q0 q0)), .second] [(.long (2 : Int64)), (.long (own_nx q0 q0))]))
  refine own_st (fun _ k => XS.lloadN X0.here hx rfl (hb hby d3_16) rfl k) ?_
  show own_Go p e below _ (s₁.setTop (mkF m 17 #[.val (.long q0), .second, .val (.long (own_nx q0 q0)), .second] [(.long q0), (.long (2 : Int64)), (.long (own_nx q0 q0))]))
  refine own_st (fun _ k => XS.lloadN X0.here hx rfl (hb hby d3_17) rfl k) ?_
  show own_Go p e below _ (s₁.setTop (mkF m 18 #[.val (.long q0), .second, .val (.long (own_nx q0 q0)), .second] [(.long (own_nx q0 q0)), (.long q0), (.long (2 : Int64)), (.long (own_nx q0 q0))]))
  refine own_st (fun _ k => XS.lmul X0.here hx rfl (hb hby d3_18) rfl k) ?_
  show own_Go p e below _ (s₁.setTop (mkF m 19 #[.val (.long q0), .second, .val (.long (own_nx q0 q0)), .second] [(.long (q0 * (own_nx q0 q0))), (.long (2 : Int64)), (.long (own_nx q0 q0))]))
  refine own_st (fun _ k => XS.lsub X0.here hx rfl (hb hby d3_19) rfl k) ?_
  show own_Go p e below _ (s₁.setTop (mkF m 20 #[.val (.long q0), .second, .val (.long (own_nx q0 q0)), .second] [(.long ((2 : Int64) - (q0 * (own_nx q0 q0)))), (.long (own_nx q0 q0))]))
  refine own_st (fun _ k => XS.lmul X0.here hx rfl (hb hby d3_20) rfl k) ?_
  show own_Go p e below _ (s₁.setTop (mkF m 21 #[.val (.long q0), .second, .val (.long (own_nx q0 q0)), .second] [(.long ((own_nx q0 q0) * ((2 : Int64) - (q0 * (own_nx q0 q0)))))]))
  refine own_st (fun _ k => XS.lstoreN X0.here hx rfl (hb hby d3_21) rfl (l' := #[.val (.long q0), .second, .val (.long ((own_nx q0 q0) * ((2 : Int64) - (q0 * (own_nx q0 q0))))), .second]) rfl k) ?_
  show own_Go p e below _ (s₁.setTop (mkF m 22 #[.val (.long q0), .second, .val (.long ((own_nx q0 q0) * ((2 : Int64) - (q0 * (own_nx q0 q0))))), .second] []))
  show own_Go p e below _ (s₁.setTop (mkF m 22 #[.val (.long q0), .second, .val (.long (own_nx q0 (own_nx q0 q0))), .second] []))
  refine own_st (fun _ k => XS.lloadN X0.here hx rfl (hb hby d3_22) rfl k) ?_
  show own_Go p e below _ (s₁.setTop (mkF m 23 #[.val (.long q0), .second, .val (.long (own_nx q0 (own_nx q0 q0))), .second] [(.long (own_nx q0 (own_nx q0 q0)))]))
  refine own_st (fun _ k => X0.ldc2Long hx hown (mvT hZ (hw _ (List.mem_of_getElem? (i := 15) rfl))) (g := (mkF m 23 #[.val (.long q0), .second, .val (.long (own_nx q0 (own_nx q0 q0))), .second] [(.long (own_nx q0 (own_nx q0 q0)))])) rfl (hb hby d3_23) _ k) ?_
  show own_Go p e below _ (s₁.setTop (mkF m 26 #[.val (.long q0), .second, .val (.long (own_nx q0 (own_nx q0 q0))), .second] [(.long (2 : Int64)), (.long (own_nx q0 (own_nx q0 q0)))]))
  refine own_st (fun _ k => XS.lloadN X0.here hx rfl (hb hby d3_26) rfl k) ?_
  show own_Go p e below _ (s₁.setTop (mkF m 27 #[.val (.long q0), .second, .val (.long (own_nx q0 (own_nx q0 q0))), .second] [(.long q0), (.long (2 : Int64)), (.long (own_nx q0 (own_nx q0 q0)))]))
  refine own_st (fun _ k => XS.lloadN X0.here hx rfl (hb hby d3_27) rfl k) ?_
  show own_Go p e below _ (s₁.setTop (mkF m 28 #[.val (.long q0), .second, .val (.long (own_nx q0 (own_nx q0 q0))), .second] [(.long (own_nx q0 (own_nx q0 q0))), (.long q0), (.long (2 : Int64)), (.long (own_nx q0 (own_nx q0 q0)))]))
  refine own_st (fun _ k => XS.lmul X0.here hx rfl (hb hby d3_28) rfl k) ?_
  show own_Go p e below _ (s₁.setTop (mkF m 29 #[.val (.long q0), .second, .val (.long (own_nx q0 (own_nx q0 q0))), .second] [(.long (q0 * (own_nx q0 (own_nx q0 q0)))), (.long (2 : Int64)), (.long (own_nx q0 (own_nx q0 q0)))]))
  refine own_st (fun _ k => XS.lsub X0.here hx rfl (hb hby d3_29) rfl k) ?_
  show own_Go p e below _ (s₁.setTop (mkF m 30 #[.val (.long q0), .second, .val (.long (own_nx q0 (own_nx q0 q0))), .second] [(.long ((2 : Int64) - (q0 * (own_nx q0 (own_nx q0 q0))))), (.long (own_nx q0 (own_nx q0 q0)))]))
  refine own_st (fun _ k => XS.lmul X0.here hx rfl (hb hby d3_30) rfl k) ?_
  show own_Go p e below _ (s₁.setTop (mkF m 31 #[.val (.long q0), .second, .val (.long (own_nx q0 (own_nx q0 q0))), .second] [(.long ((own_nx q0 (own_nx q0 q0)) * ((2 : Int64) - (q0 * (own_nx q0 (own_nx q0 q0))))))]))
  refine own_st (fun _ k => XS.lstoreN X0.here hx rfl (hb hby d3_31) rfl (l' := #[.val (.long q0), .second, .val (.long ((own_nx q0 (own_nx q0 q0)) * ((2 : Int64) - (q0 * (own_nx q0 (own_nx q0 q0)))))), .second]) rfl k) ?_
  show own_Go p e below _ (s₁.setTop (mkF m 32 #[.val (.long q0), .second, .val (.long ((own_nx q0 (own_nx q0 q0)) * ((2 : Int64) - (q0 * (own_nx q0 (own_nx q0 q0)))))), .second] []))
  show own_Go p e below _ (s₁.setTop (mkF m 32 #[.val (.long q0), .second, .val (.long (own_nx q0 (own_nx q0 (own_nx q0 q0)))), .second] []))
  refine own_st (fun _ k => XS.lloadN X0.here hx rfl (hb hby d3_32) rfl k) ?_
  show own_Go p e below _ (s₁.setTop (mkF m 33 #[.val (.long q0), .second, .val (.long (own_nx q0 (own_nx q0 (own_nx q0 q0)))), .second] [(.long (own_nx q0 (own_nx q0 (own_nx q0 q0))))]))
  refine own_st (fun _ k => X0.ldc2Long hx hown (mvT hZ (hw _ (List.mem_of_getElem? (i := 15) rfl))) (g := (mkF m 33 #[.val (.long q0), .second, .val (.long (own_nx q0 (own_nx q0 (own_nx q0 q0)))), .second] [(.long (own_nx q0 (own_nx q0 (own_nx q0 q0))))])) rfl (hb hby d3_33) _ k) ?_
  show own_Go p e below _ (s₁.setTop (mkF m 36 #[.val (.long q0), .second, .val (.long (own_nx q0 (own_nx q0 (own_nx q0 q0)))), .second] [(.long (2 : Int64)), (.long (own_nx q0 (own_nx q0 (own_nx q0 q0))))]))
  refine own_st (fun _ k => XS.lloadN X0.here hx rfl (hb hby d3_36) rfl k) ?_
  show own_Go p e below _ (s₁.setTop (mkF m 37 #[.val (.long q0), .second, .val (.long (own_nx q0 (own_nx q0 (own_nx q0 q0)))), .second] [(.long q0), (.long (2 : Int64)), (.long (own_nx q0 (own_nx q0 (own_nx q0 q0))))]))
  refine own_st (fun _ k => XS.lloadN X0.here hx rfl (hb hby d3_37) rfl k) ?_
  show own_Go p e below _ (s₁.setTop (mkF m 38 #[.val (.long q0), .second, .val (.long (own_nx q0 (own_nx q0 (own_nx q0 q0)))), .second] [(.long (own_nx q0 (own_nx q0 (own_nx q0 q0)))), (.long q0), (.long (2 : Int64)), (.long (own_nx q0 (own_nx q0 (own_nx q0 q0))))]))
  refine own_st (fun _ k => XS.lmul X0.here hx rfl (hb hby d3_38) rfl k) ?_
  show own_Go p e below _ (s₁.setTop (mkF m 39 #[.val (.long q0), .second, .val (.long (own_nx q0 (own_nx q0 (own_nx q0 q0)))), .second] [(.long (q0 * (own_nx q0 (own_nx q0 (own_nx q0 q0))))), (.long (2 : Int64)), (.long (own_nx q0 (own_nx q0 (own_nx q0 q0))))]))
  refine own_st (fun _ k => XS.lsub X0.here hx rfl (hb hby d3_39) rfl k) ?_
  show own_Go p e below _ (s₁.setTop (mkF m 40 #[.val (.long q0), .second, .val (.long (own_nx q0 (own_nx q0 (own_nx q0 q0)))), .second] [(.long ((2 : Int64) - (q0 * (own_nx q0 (own_nx q0 (own_nx q0 q0)))))), (.long (own_nx q0 (own_nx q0 (own_nx q0 q0))))]))
  refine own_st (fun _ k => XS.lmul X0.here hx rfl (hb hby d3_40) rfl k) ?_
  show own_Go p e below _ (s₁.setTop (mkF m 41 #[.val (.long q0), .second, .val (.long (own_nx q0 (own_nx q0 (own_nx q0 q0)))), .second] [(.long ((own_nx q0 (own_nx q0 (own_nx q0 q0))) * ((2 : Int64) - (q0 * (own_nx q0 (own_nx q0 (own_nx q0 q0)))))))]))
  refine own_st (fun _ k => XS.lstoreN X0.here hx rfl (hb hby d3_41) rfl (l' := #[.val (.long q0), .second, .val (.long ((own_nx q0 (own_nx q0 (own_nx q0 q0))) * ((2 : Int64) - (q0 * (own_nx q0 (own_nx q0 (own_nx q0 q0))))))), .second]) rfl k) ?_
  show own_Go p e below _ (s₁.setTop (mkF m 42 #[.val (.long q0), .second, .val (.long ((own_nx q0 (own_nx q0 (own_nx q0 q0))) * ((2 : Int64) - (q0 * (own_nx q0 (own_nx q0 (own_nx q0 q0))))))), .second] []))
  show own_Go p e below _ (s₁.setTop (mkF m 42 #[.val (.long q0), .second, .val (.long (own_nx q0 (own_nx q0 (own_nx q0 (own_nx q0 q0))))), .second] []))
  refine own_st (fun _ k => XS.lloadN X0.here hx rfl (hb hby d3_42) rfl k) ?_
  show own_Go p e below _ (s₁.setTop (mkF m 43 #[.val (.long q0), .second, .val (.long (own_nx q0 (own_nx q0 (own_nx q0 (own_nx q0 q0))))), .second] [(.long (own_nx q0 (own_nx q0 (own_nx q0 (own_nx q0 q0)))))]))
  refine own_st (fun _ k => X0.ldc2Long hx hown (mvT hZ (hw _ (List.mem_of_getElem? (i := 15) rfl))) (g := (mkF m 43 #[.val (.long q0), .second, .val (.long (own_nx q0 (own_nx q0 (own_nx q0 (own_nx q0 q0))))), .second] [(.long (own_nx q0 (own_nx q0 (own_nx q0 (own_nx q0 q0)))))])) rfl (hb hby d3_43) _ k) ?_
  show own_Go p e below _ (s₁.setTop (mkF m 46 #[.val (.long q0), .second, .val (.long (own_nx q0 (own_nx q0 (own_nx q0 (own_nx q0 q0))))), .second] [(.long (2 : Int64)), (.long (own_nx q0 (own_nx q0 (own_nx q0 (own_nx q0 q0)))))]))
  refine own_st (fun _ k => XS.lloadN X0.here hx rfl (hb hby d3_46) rfl k) ?_
  show own_Go p e below _ (s₁.setTop (mkF m 47 #[.val (.long q0), .second, .val (.long (own_nx q0 (own_nx q0 (own_nx q0 (own_nx q0 q0))))), .second] [(.long q0), (.long (2 : Int64)), (.long (own_nx q0 (own_nx q0 (own_nx q0 (own_nx q0 q0)))))]))
  refine own_st (fun _ k => XS.lloadN X0.here hx rfl (hb hby d3_47) rfl k) ?_
  show own_Go p e below _ (s₁.setTop (mkF m 48 #[.val (.long q0), .second, .val (.long (own_nx q0 (own_nx q0 (own_nx q0 (own_nx q0 q0))))), .second] [(.long (own_nx q0 (own_nx q0 (own_nx q0 (own_nx q0 q0))))), (.long q0), (.long (2 : Int64)), (.long (own_nx q0 (own_nx q0 (own_nx q0 (own_nx q0 q0)))))]))
  refine own_st (fun _ k => XS.lmul X0.here hx rfl (hb hby d3_48) rfl k) ?_
  show own_Go p e below _ (s₁.setTop (mkF m 49 #[.val (.long q0), .second, .val (.long (own_nx q0 (own_nx q0 (own_nx q0 (own_nx q0 q0))))), .second] [(.long (q0 * (own_nx q0 (own_nx q0 (own_nx q0 (own_nx q0 q0)))))), (.long (2 : Int64)), (.long (own_nx q0 (own_nx q0 (own_nx q0 (own_nx q0 q0)))))]))
  refine own_st (fun _ k => XS.lsub X0.here hx rfl (hb hby d3_49) rfl k) ?_
  show own_Go p e below _ (s₁.setTop (mkF m 50 #[.val (.long q0), .second, .val (.long (own_nx q0 (own_nx q0 (own_nx q0 (own_nx q0 q0))))), .second] [(.long ((2 : Int64) - (q0 * (own_nx q0 (own_nx q0 (own_nx q0 (own_nx q0 q0))))))), (.long (own_nx q0 (own_nx q0 (own_nx q0 (own_nx q0 q0)))))]))
  refine own_st (fun _ k => XS.lmul X0.here hx rfl (hb hby d3_50) rfl k) ?_
  show own_Go p e below _ (s₁.setTop (mkF m 51 #[.val (.long q0), .second, .val (.long (own_nx q0 (own_nx q0 (own_nx q0 (own_nx q0 q0))))), .second] [(.long ((own_nx q0 (own_nx q0 (own_nx q0 (own_nx q0 q0)))) * ((2 : Int64) - (q0 * (own_nx q0 (own_nx q0 (own_nx q0 (own_nx q0 q0))))))))]))
  refine own_st (fun _ k => XS.lstoreN X0.here hx rfl (hb hby d3_51) rfl (l' := #[.val (.long q0), .second, .val (.long ((own_nx q0 (own_nx q0 (own_nx q0 (own_nx q0 q0)))) * ((2 : Int64) - (q0 * (own_nx q0 (own_nx q0 (own_nx q0 (own_nx q0 q0)))))))), .second]) rfl k) ?_
  show own_Go p e below _ (s₁.setTop (mkF m 52 #[.val (.long q0), .second, .val (.long ((own_nx q0 (own_nx q0 (own_nx q0 (own_nx q0 q0)))) * ((2 : Int64) - (q0 * (own_nx q0 (own_nx q0 (own_nx q0 (own_nx q0 q0)))))))), .second] []))
  show own_Go p e below _ (s₁.setTop (mkF m 52 #[.val (.long q0), .second, .val (.long (own_nx q0 (own_nx q0 (own_nx q0 (own_nx q0 (own_nx q0 q0)))))), .second] []))
  refine own_st (fun _ k => XS.lloadN X0.here hx rfl (hb hby d3_52) rfl k) ?_
  show own_Go p e below _ (s₁.setTop (mkF m 53 #[.val (.long q0), .second, .val (.long (own_nx q0 (own_nx q0 (own_nx q0 (own_nx q0 (own_nx q0 q0)))))), .second] [(.long (own_nx q0 (own_nx q0 (own_nx q0 (own_nx q0 (own_nx q0 q0))))))]))
  exact own_retJ X0 hx hlk hret (hb hby d3_53) ⟨rfl, rfl, e0⟩ (by decide) (by decide)
/-! the plain law -/
theorem own_xs (x : BitVec 64) (s : Nat) (q : 64 ≤ s + (s + s)) : ((x ^^^ x >>> s) ^^^ (x ^^^ x >>> s) >>> s) ^^^ (x ^^^ x >>> s) >>> (s + s) = x := by
  apply BitVec.eq_of_getLsbD_eq
  intro i hi
  have e3 : x.getLsbD (s + s + (s + i)) = false := BitVec.getLsbD_of_ge _ _ (by omega)
  have e1 : s + s + i = s + (s + i) := by omega
  have e2 : s + (s + s + i) = s + s + (s + i) := by omega
  simp only [BitVec.getLsbD_xor, BitVec.getLsbD_ushiftRight, e1, e2]
  have e4 : s + (s + (s + i)) = s + s + (s + i) := by omega
  rw [e4, e3]
  cases x.getLsbD i <;> cases x.getLsbD (s + i) <;> cases x.getLsbD (s + (s + i)) <;> rfl
theorem own_s30 (x : Int64) : (own_sh x 30).toBitVec = x.toBitVec >>> 30 := rfl
theorem own_s27 (x : Int64) : (own_sh x 27).toBitVec = x.toBitVec >>> 27 := rfl
theorem own_s31 (x : Int64) : (own_sh x 31).toBitVec = x.toBitVec >>> 31 := rfl
theorem own_s60 (x : Int64) : (own_sh x ((2 : Int32) * 30)).toBitVec = x.toBitVec >>> 60 := rfl
theorem own_s54 (x : Int64) : (own_sh x ((2 : Int32) * 27)).toBitVec = x.toBitVec >>> 54 := rfl
theorem own_s62 (x : Int64) : (own_sh x ((2 : Int32) * 31)).toBitVec = x.toBitVec >>> 62 := rfl
theorem own_u31 (x : Int64) : own_uns (x ^^^ own_sh x 31) 31 = x := by
  apply Int64.toBitVec_inj.mp
  simp only [own_uns, Int64.toBitVec_xor, own_s31, own_s62]
  exact own_xs x.toBitVec 31 (by decide)
theorem own_u27 (x : Int64) : own_uns (x ^^^ own_sh x 27) 27 = x := by
  apply Int64.toBitVec_inj.mp
  simp only [own_uns, Int64.toBitVec_xor, own_s27, own_s54]
  exact own_xs x.toBitVec 27 (by decide)
theorem own_u30 (x : Int64) : own_uns (x ^^^ own_sh x 30) 30 = x := by
  apply Int64.toBitVec_inj.mp
  simp only [own_uns, Int64.toBitVec_xor, own_s30, own_s60]
  exact own_xs x.toBitVec 30 (by decide)
theorem own_i1 : (-4658895280553007687 : Int64) * own_inv (-4658895280553007687 : Int64) = 1 := by decide +kernel
theorem own_i2' : (-7723592293110705685 : Int64) * own_inv (-7723592293110705685 : Int64) = 1 := by decide +kernel
theorem own_law (a : Int64) (b : Int32) : own_uns (own_uns (own_uns (own_d a b) 31 * own_inv (-7723592293110705685 : Int64)) 27 * own_inv (-4658895280553007687 : Int64)) 30 = a + b.toInt64 * (-7046029254386353131 : Int64) := by
  rw [own_d, own_u31, own_c, Int64.mul_assoc, own_i2', Int64.mul_one, own_u27, own_b, Int64.mul_assoc, own_i1, Int64.mul_one, own_u30, own_a]

theorem pn_0 : plainFor (⟨"com/example/accordant/accordant/SeedsDerivedPinLaw", "law", "(JI)Z"⟩ : MethodName) = true := plainFor_of_name (by first | (simp [plainName, overriddenIn]; done) | decide +kernel)
theorem ef_0 (m : MethodId) (x0 : Int64) (x1 : Int32) : entryFrame m #[(.long x0), (.int x1)] maxLocals = mkF m 0 #[.val (.long x0), .second, .val (.int x1), .unset, .unset, .unset, .unset] [] := by first | (simp [entryFrame, mkF, argsToLocals, Value.category, maxLocals]; done) | rfl
set_option maxRecDepth 65536 in
set_option maxHeartbeats 40000000 in
theorem rm0 (l : Launch) (Z : State) (tA : Array Value) (hw : ∀ d ∈ tables_1, d.before tA Z = true) (q0 : Int64) (p1 : Int32) (h0 : Heap) (n0 : Nat) (Z0 : n0 ≤ h0.size) :
    MetFree l x (head1 (Jvm.Cond.code x code maxLocals ret :: tables_1) room_1) (fun a U => a = #[(.long q0), (.int p1)] ∧ Z.Warmed39 U.vm ∧ U.heap = h0) (fun _ _ _ _ _ => True) (fun _ U o U' => own_Post U (fun v _ L => v = some (.int (1 : Int32)) ∧ Fr n0 L) 0 0 o U') := by
  refine own_body pn_0 ?_
  intro p e s m below meth c s₁ X0 hx hZ hby hml hown hret hlk hnm e0
  have N0 := Fr.nil n0
  rw [ef_0]
  show own_Go p e below _ (s₁.setTop (mkF m 0 #[.val (.long q0), .second, .val (.int p1), .unset, .unset, .unset, .unset] []))
  refine own_st (fun _ k => XS.lloadN X0.here hx rfl (hb hby at_0) rfl k) ?_
  show own_Go p e below _ (s₁.setTop (mkF m 1 #[.val (.long q0), .second, .val (.int p1), .unset, .unset, .unset, .unset] [(.long q0)]))
  refine own_st (fun _ k => XS.iloadN X0.here hx rfl (hb hby at_1) rfl k) ?_
  show own_Go p e below _ (s₁.setTop (mkF m 2 #[.val (.long q0), .second, .val (.int p1), .unset, .unset, .unset, .unset] [(.int p1), (.long q0)]))
  obtain ⟨_, T1, _, X1, ⟨rfl, rfl, e1⟩, st1⟩ := own_callS X0 hx hZ (y := (⟨"com/example/accordant/accordant/Seeds", "derived", "(JI)J"⟩ : MethodName)) (argsL := [(.long q0), (.int p1)]) (rest := []) (W := 0) (g := (mkF m 2 #[.val (.long q0), .second, .val (.int p1), .unset, .unset, .unset, .unset] [(.int p1), (.long q0)])) (rm1 l Z tA hw q0 p1 h0) hown (hw _ (List.mem_of_getElem? (i := 0) rfl)) (hw _ (List.mem_of_getElem? (i := 1) rfl)) (hw _ (List.mem_of_getElem? (i := 2) rfl)) (hw _ (List.mem_of_getElem? (i := 3) rfl)) (by decide) e0 rfl (by rw [hml]; rfl) pd_0 rfl rfl (by show 2 * 0 + _ ≤ _; exact Nat.le_of_eq rfl) (hb hby at_2) (by decide) (by decide) (by decide) (by decide)
  replace X1 := own_flat X1
  refine own_st st1 ?_
  show own_Go p e below _ (T1.setTop (mkF m 5 #[.val (.long q0), .second, .val (.int p1), .unset, .unset, .unset, .unset] [(.long (own_d q0 p1))]))
  refine own_st (fun _ k => XS.lstoreN X1.here hx rfl (hb hby at_5) rfl (l' := #[.val (.long q0), .second, .val (.int p1), .val (.long (own_d q0 p1)), .second, .unset, .unset]) rfl k) ?_
  show own_Go p e below _ (T1.setTop (mkF m 6 #[.val (.long q0), .second, .val (.int p1), .val (.long (own_d q0 p1)), .second, .unset, .unset] []))
  refine own_st (fun _ k => XS.lloadN X1.here hx rfl (hb hby at_6) rfl k) ?_
  show own_Go p e below _ (T1.setTop (mkF m 7 #[.val (.long q0), .second, .val (.int p1), .val (.long (own_d q0 p1)), .second, .unset, .unset] [(.long (own_d q0 p1))]))
  refine own_st (fun _ k => XS.bipush X1.here hx rfl (hb hby at_7) k) ?_
  show own_Go p e below _ (T1.setTop (mkF m 9 #[.val (.long q0), .second, .val (.int p1), .val (.long (own_d q0 p1)), .second, .unset, .unset] [(.int (31 : Int32)), (.long (own_d q0 p1))]))
  obtain ⟨_, T2, _, X2, ⟨rfl, rfl, e2⟩, st2⟩ := own_callS X1 hx hZ (y := (⟨"com/example/accordant/accordant/SeedsDerivedPinLaw", "unshift", "(JI)J"⟩ : MethodName)) (argsL := [(.long (own_d q0 p1)), (.int (31 : Int32))]) (rest := []) (W := 0) (g := (mkF m 9 #[.val (.long q0), .second, .val (.int p1), .val (.long (own_d q0 p1)), .second, .unset, .unset] [(.int (31 : Int32)), (.long (own_d q0 p1))])) (rm2 l Z tA hw (own_d q0 p1) (31 : Int32) h0) hown (hw _ (List.mem_of_getElem? (i := 7) rfl)) (hw _ (List.mem_of_getElem? (i := 8) rfl)) (hw _ (List.mem_of_getElem? (i := 9) rfl)) (hw _ (List.mem_of_getElem? (i := 10) rfl)) (by decide) e1 rfl (by rw [hml]; rfl) pd_0 rfl rfl (by show 2 * 0 + _ ≤ _; exact Nat.le_of_eq rfl) (hb hby at_9) (by decide) (by decide) (by decide) (by decide)
  replace X2 := own_flat X2
  refine own_st st2 ?_
  show own_Go p e below _ (T2.setTop (mkF m 12 #[.val (.long q0), .second, .val (.int p1), .val (.long (own_d q0 p1)), .second, .unset, .unset] [(.long (own_uns (own_d q0 p1) (31 : Int32)))]))
  refine own_st (fun _ k => XS.lstore X2.here hx rfl (hb hby at_12) rfl (l' := #[.val (.long q0), .second, .val (.int p1), .val (.long (own_d q0 p1)), .second, .val (.long (own_uns (own_d q0 p1) (31 : Int32))), .second]) rfl k) ?_
  show own_Go p e below _ (T2.setTop (mkF m 14 #[.val (.long q0), .second, .val (.int p1), .val (.long (own_d q0 p1)), .second, .val (.long (own_uns (own_d q0 p1) (31 : Int32))), .second] []))
  refine own_st (fun _ k => XS.lload X2.here hx rfl (hb hby at_14) rfl k) ?_
  show own_Go p e below _ (T2.setTop (mkF m 16 #[.val (.long q0), .second, .val (.int p1), .val (.long (own_d q0 p1)), .second, .val (.long (own_uns (own_d q0 p1) (31 : Int32))), .second] [(.long (own_uns (own_d q0 p1) (31 : Int32)))]))
  refine own_st (fun _ k => X2.ldc2Long hx hown (mvT hZ (hw _ (List.mem_of_getElem? (i := 11) rfl))) (g := (mkF m 16 #[.val (.long q0), .second, .val (.int p1), .val (.long (own_d q0 p1)), .second, .val (.long (own_uns (own_d q0 p1) (31 : Int32))), .second] [(.long (own_uns (own_d q0 p1) (31 : Int32)))])) rfl (hb hby at_16) _ k) ?_
  show own_Go p e below _ (T2.setTop (mkF m 19 #[.val (.long q0), .second, .val (.int p1), .val (.long (own_d q0 p1)), .second, .val (.long (own_uns (own_d q0 p1) (31 : Int32))), .second] [(.long (-7723592293110705685 : Int64)), (.long (own_uns (own_d q0 p1) (31 : Int32)))]))
  obtain ⟨_, T3, _, X3, ⟨rfl, rfl, e3⟩, st3⟩ := own_callS X2 hx hZ (y := (⟨"com/example/accordant/accordant/SeedsDerivedPinLaw", "inverse", "(J)J"⟩ : MethodName)) (argsL := [(.long (-7723592293110705685 : Int64))]) (rest := [(.long (own_uns (own_d q0 p1) (31 : Int32)))]) (W := 2) (g := (mkF m 19 #[.val (.long q0), .second, .val (.int p1), .val (.long (own_d q0 p1)), .second, .val (.long (own_uns (own_d q0 p1) (31 : Int32))), .second] [(.long (-7723592293110705685 : Int64)), (.long (own_uns (own_d q0 p1) (31 : Int32)))])) (rm3 l Z tA hw (-7723592293110705685 : Int64) h0) hown (hw _ (List.mem_of_getElem? (i := 12) rfl)) (hw _ (List.mem_of_getElem? (i := 13) rfl)) (hw _ (List.mem_of_getElem? (i := 9) rfl)) (hw _ (List.mem_of_getElem? (i := 14) rfl)) (by decide) e2 rfl (by rw [hml]; rfl) pd_1 rfl rfl (by show 2 * 0 + _ ≤ _; exact Nat.le_of_eq rfl) (hb hby at_19) (by decide) (by decide) (by decide) (by decide)
  replace X3 := own_flat X3
  refine own_st st3 ?_
  show own_Go p e below _ (T3.setTop (mkF m 22 #[.val (.long q0), .second, .val (.int p1), .val (.long (own_d q0 p1)), .second, .val (.long (own_uns (own_d q0 p1) (31 : Int32))), .second] [(.long (own_inv (-7723592293110705685 : Int64))), (.long (own_uns (own_d q0 p1) (31 : Int32)))]))
  refine own_st (fun _ k => XS.lmul X3.here hx rfl (hb hby at_22) rfl k) ?_
  show own_Go p e below _ (T3.setTop (mkF m 23 #[.val (.long q0), .second, .val (.int p1), .val (.long (own_d q0 p1)), .second, .val (.long (own_uns (own_d q0 p1) (31 : Int32))), .second] [(.long ((own_uns (own_d q0 p1) (31 : Int32)) * (own_inv (-7723592293110705685 : Int64))))]))
  refine own_st (fun _ k => XS.bipush X3.here hx rfl (hb hby at_23) k) ?_
  show own_Go p e below _ (T3.setTop (mkF m 25 #[.val (.long q0), .second, .val (.int p1), .val (.long (own_d q0 p1)), .second, .val (.long (own_uns (own_d q0 p1) (31 : Int32))), .second] [(.int (27 : Int32)), (.long ((own_uns (own_d q0 p1) (31 : Int32)) * (own_inv (-7723592293110705685 : Int64))))]))
  obtain ⟨_, T4, _, X4, ⟨rfl, rfl, e4⟩, st4⟩ := own_callS X3 hx hZ (y := (⟨"com/example/accordant/accordant/SeedsDerivedPinLaw", "unshift", "(JI)J"⟩ : MethodName)) (argsL := [(.long ((own_uns (own_d q0 p1) (31 : Int32)) * (own_inv (-7723592293110705685 : Int64)))), (.int (27 : Int32))]) (rest := []) (W := 0) (g := (mkF m 25 #[.val (.long q0), .second, .val (.int p1), .val (.long (own_d q0 p1)), .second, .val (.long (own_uns (own_d q0 p1) (31 : Int32))), .second] [(.int (27 : Int32)), (.long ((own_uns (own_d q0 p1) (31 : Int32)) * (own_inv (-7723592293110705685 : Int64))))])) (rm2 l Z tA hw ((own_uns (own_d q0 p1) (31 : Int32)) * (own_inv (-7723592293110705685 : Int64))) (27 : Int32) h0) hown (hw _ (List.mem_of_getElem? (i := 7) rfl)) (hw _ (List.mem_of_getElem? (i := 8) rfl)) (hw _ (List.mem_of_getElem? (i := 9) rfl)) (hw _ (List.mem_of_getElem? (i := 10) rfl)) (by decide) e3 rfl (by rw [hml]; rfl) pd_0 rfl rfl (by show 2 * 0 + _ ≤ _; exact Nat.le_of_eq rfl) (hb hby at_25) (by decide) (by decide) (by decide) (by decide)
  replace X4 := own_flat X4
  refine own_st st4 ?_
  show own_Go p e below _ (T4.setTop (mkF m 28 #[.val (.long q0), .second, .val (.int p1), .val (.long (own_d q0 p1)), .second, .val (.long (own_uns (own_d q0 p1) (31 : Int32))), .second] [(.long (own_uns ((own_uns (own_d q0 p1) (31 : Int32)) * (own_inv (-7723592293110705685 : Int64))) (27 : Int32)))]))
  refine own_st (fun _ k => XS.lstore X4.here hx rfl (hb hby at_28) rfl (l' := #[.val (.long q0), .second, .val (.int p1), .val (.long (own_d q0 p1)), .second, .val (.long (own_uns ((own_uns (own_d q0 p1) (31 : Int32)) * (own_inv (-7723592293110705685 : Int64))) (27 : Int32))), .second]) rfl k) ?_
  show own_Go p e below _ (T4.setTop (mkF m 30 #[.val (.long q0), .second, .val (.int p1), .val (.long (own_d q0 p1)), .second, .val (.long (own_uns ((own_uns (own_d q0 p1) (31 : Int32)) * (own_inv (-7723592293110705685 : Int64))) (27 : Int32))), .second] []))
  refine own_st (fun _ k => XS.lload X4.here hx rfl (hb hby at_30) rfl k) ?_
  show own_Go p e below _ (T4.setTop (mkF m 32 #[.val (.long q0), .second, .val (.int p1), .val (.long (own_d q0 p1)), .second, .val (.long (own_uns ((own_uns (own_d q0 p1) (31 : Int32)) * (own_inv (-7723592293110705685 : Int64))) (27 : Int32))), .second] [(.long (own_uns ((own_uns (own_d q0 p1) (31 : Int32)) * (own_inv (-7723592293110705685 : Int64))) (27 : Int32)))]))
  refine own_st (fun _ k => X4.ldc2Long hx hown (mvT hZ (hw _ (List.mem_of_getElem? (i := 16) rfl))) (g := (mkF m 32 #[.val (.long q0), .second, .val (.int p1), .val (.long (own_d q0 p1)), .second, .val (.long (own_uns ((own_uns (own_d q0 p1) (31 : Int32)) * (own_inv (-7723592293110705685 : Int64))) (27 : Int32))), .second] [(.long (own_uns ((own_uns (own_d q0 p1) (31 : Int32)) * (own_inv (-7723592293110705685 : Int64))) (27 : Int32)))])) rfl (hb hby at_32) _ k) ?_
  show own_Go p e below _ (T4.setTop (mkF m 35 #[.val (.long q0), .second, .val (.int p1), .val (.long (own_d q0 p1)), .second, .val (.long (own_uns ((own_uns (own_d q0 p1) (31 : Int32)) * (own_inv (-7723592293110705685 : Int64))) (27 : Int32))), .second] [(.long (-4658895280553007687 : Int64)), (.long (own_uns ((own_uns (own_d q0 p1) (31 : Int32)) * (own_inv (-7723592293110705685 : Int64))) (27 : Int32)))]))
  obtain ⟨_, T5, _, X5, ⟨rfl, rfl, e5⟩, st5⟩ := own_callS X4 hx hZ (y := (⟨"com/example/accordant/accordant/SeedsDerivedPinLaw", "inverse", "(J)J"⟩ : MethodName)) (argsL := [(.long (-4658895280553007687 : Int64))]) (rest := [(.long (own_uns ((own_uns (own_d q0 p1) (31 : Int32)) * (own_inv (-7723592293110705685 : Int64))) (27 : Int32)))]) (W := 2) (g := (mkF m 35 #[.val (.long q0), .second, .val (.int p1), .val (.long (own_d q0 p1)), .second, .val (.long (own_uns ((own_uns (own_d q0 p1) (31 : Int32)) * (own_inv (-7723592293110705685 : Int64))) (27 : Int32))), .second] [(.long (-4658895280553007687 : Int64)), (.long (own_uns ((own_uns (own_d q0 p1) (31 : Int32)) * (own_inv (-7723592293110705685 : Int64))) (27 : Int32)))])) (rm3 l Z tA hw (-4658895280553007687 : Int64) h0) hown (hw _ (List.mem_of_getElem? (i := 12) rfl)) (hw _ (List.mem_of_getElem? (i := 13) rfl)) (hw _ (List.mem_of_getElem? (i := 9) rfl)) (hw _ (List.mem_of_getElem? (i := 14) rfl)) (by decide) e4 rfl (by rw [hml]; rfl) pd_1 rfl rfl (by show 2 * 0 + _ ≤ _; exact Nat.le_of_eq rfl) (hb hby at_35) (by decide) (by decide) (by decide) (by decide)
  replace X5 := own_flat X5
  refine own_st st5 ?_
  show own_Go p e below _ (T5.setTop (mkF m 38 #[.val (.long q0), .second, .val (.int p1), .val (.long (own_d q0 p1)), .second, .val (.long (own_uns ((own_uns (own_d q0 p1) (31 : Int32)) * (own_inv (-7723592293110705685 : Int64))) (27 : Int32))), .second] [(.long (own_inv (-4658895280553007687 : Int64))), (.long (own_uns ((own_uns (own_d q0 p1) (31 : Int32)) * (own_inv (-7723592293110705685 : Int64))) (27 : Int32)))]))
  refine own_st (fun _ k => XS.lmul X5.here hx rfl (hb hby at_38) rfl k) ?_
  show own_Go p e below _ (T5.setTop (mkF m 39 #[.val (.long q0), .second, .val (.int p1), .val (.long (own_d q0 p1)), .second, .val (.long (own_uns ((own_uns (own_d q0 p1) (31 : Int32)) * (own_inv (-7723592293110705685 : Int64))) (27 : Int32))), .second] [(.long ((own_uns ((own_uns (own_d q0 p1) (31 : Int32)) * (own_inv (-7723592293110705685 : Int64))) (27 : Int32)) * (own_inv (-4658895280553007687 : Int64))))]))
  refine own_st (fun _ k => XS.bipush X5.here hx rfl (hb hby at_39) k) ?_
  show own_Go p e below _ (T5.setTop (mkF m 41 #[.val (.long q0), .second, .val (.int p1), .val (.long (own_d q0 p1)), .second, .val (.long (own_uns ((own_uns (own_d q0 p1) (31 : Int32)) * (own_inv (-7723592293110705685 : Int64))) (27 : Int32))), .second] [(.int (30 : Int32)), (.long ((own_uns ((own_uns (own_d q0 p1) (31 : Int32)) * (own_inv (-7723592293110705685 : Int64))) (27 : Int32)) * (own_inv (-4658895280553007687 : Int64))))]))
  obtain ⟨_, T6, _, X6, ⟨rfl, rfl, e6⟩, st6⟩ := own_callS X5 hx hZ (y := (⟨"com/example/accordant/accordant/SeedsDerivedPinLaw", "unshift", "(JI)J"⟩ : MethodName)) (argsL := [(.long ((own_uns ((own_uns (own_d q0 p1) (31 : Int32)) * (own_inv (-7723592293110705685 : Int64))) (27 : Int32)) * (own_inv (-4658895280553007687 : Int64)))), (.int (30 : Int32))]) (rest := []) (W := 0) (g := (mkF m 41 #[.val (.long q0), .second, .val (.int p1), .val (.long (own_d q0 p1)), .second, .val (.long (own_uns ((own_uns (own_d q0 p1) (31 : Int32)) * (own_inv (-7723592293110705685 : Int64))) (27 : Int32))), .second] [(.int (30 : Int32)), (.long ((own_uns ((own_uns (own_d q0 p1) (31 : Int32)) * (own_inv (-7723592293110705685 : Int64))) (27 : Int32)) * (own_inv (-4658895280553007687 : Int64))))])) (rm2 l Z tA hw ((own_uns ((own_uns (own_d q0 p1) (31 : Int32)) * (own_inv (-7723592293110705685 : Int64))) (27 : Int32)) * (own_inv (-4658895280553007687 : Int64))) (30 : Int32) h0) hown (hw _ (List.mem_of_getElem? (i := 7) rfl)) (hw _ (List.mem_of_getElem? (i := 8) rfl)) (hw _ (List.mem_of_getElem? (i := 9) rfl)) (hw _ (List.mem_of_getElem? (i := 10) rfl)) (by decide) e5 rfl (by rw [hml]; rfl) pd_0 rfl rfl (by show 2 * 0 + _ ≤ _; exact Nat.le_of_eq rfl) (hb hby at_41) (by decide) (by decide) (by decide) (by decide)
  replace X6 := own_flat X6
  refine own_st st6 ?_
  show own_Go p e below _ (T6.setTop (mkF m 44 #[.val (.long q0), .second, .val (.int p1), .val (.long (own_d q0 p1)), .second, .val (.long (own_uns ((own_uns (own_d q0 p1) (31 : Int32)) * (own_inv (-7723592293110705685 : Int64))) (27 : Int32))), .second] [(.long (own_uns ((own_uns ((own_uns (own_d q0 p1) (31 : Int32)) * (own_inv (-7723592293110705685 : Int64))) (27 : Int32)) * (own_inv (-4658895280553007687 : Int64))) (30 : Int32)))]))
  refine own_st (fun _ k => XS.lstore X6.here hx rfl (hb hby at_44) rfl (l' := #[.val (.long q0), .second, .val (.int p1), .val (.long (own_d q0 p1)), .second, .val (.long (own_uns ((own_uns ((own_uns (own_d q0 p1) (31 : Int32)) * (own_inv (-7723592293110705685 : Int64))) (27 : Int32)) * (own_inv (-4658895280553007687 : Int64))) (30 : Int32))), .second]) rfl k) ?_
  show own_Go p e below _ (T6.setTop (mkF m 46 #[.val (.long q0), .second, .val (.int p1), .val (.long (own_d q0 p1)), .second, .val (.long (own_uns ((own_uns ((own_uns (own_d q0 p1) (31 : Int32)) * (own_inv (-7723592293110705685 : Int64))) (27 : Int32)) * (own_inv (-4658895280553007687 : Int64))) (30 : Int32))), .second] []))
  refine own_st (fun _ k => XS.lload X6.here hx rfl (hb hby at_46) rfl k) ?_
  show own_Go p e below _ (T6.setTop (mkF m 48 #[.val (.long q0), .second, .val (.int p1), .val (.long (own_d q0 p1)), .second, .val (.long (own_uns ((own_uns ((own_uns (own_d q0 p1) (31 : Int32)) * (own_inv (-7723592293110705685 : Int64))) (27 : Int32)) * (own_inv (-4658895280553007687 : Int64))) (30 : Int32))), .second] [(.long (own_uns ((own_uns ((own_uns (own_d q0 p1) (31 : Int32)) * (own_inv (-7723592293110705685 : Int64))) (27 : Int32)) * (own_inv (-4658895280553007687 : Int64))) (30 : Int32)))]))
  refine own_st (fun _ k => XS.lloadN X6.here hx rfl (hb hby at_48) rfl k) ?_
  show own_Go p e below _ (T6.setTop (mkF m 49 #[.val (.long q0), .second, .val (.int p1), .val (.long (own_d q0 p1)), .second, .val (.long (own_uns ((own_uns ((own_uns (own_d q0 p1) (31 : Int32)) * (own_inv (-7723592293110705685 : Int64))) (27 : Int32)) * (own_inv (-4658895280553007687 : Int64))) (30 : Int32))), .second] [(.long q0), (.long (own_uns ((own_uns ((own_uns (own_d q0 p1) (31 : Int32)) * (own_inv (-7723592293110705685 : Int64))) (27 : Int32)) * (own_inv (-4658895280553007687 : Int64))) (30 : Int32)))]))
  refine own_st (fun _ k => XS.iloadN X6.here hx rfl (hb hby at_49) rfl k) ?_
  show own_Go p e below _ (T6.setTop (mkF m 50 #[.val (.long q0), .second, .val (.int p1), .val (.long (own_d q0 p1)), .second, .val (.long (own_uns ((own_uns ((own_uns (own_d q0 p1) (31 : Int32)) * (own_inv (-7723592293110705685 : Int64))) (27 : Int32)) * (own_inv (-4658895280553007687 : Int64))) (30 : Int32))), .second] [(.int p1), (.long q0), (.long (own_uns ((own_uns ((own_uns (own_d q0 p1) (31 : Int32)) * (own_inv (-7723592293110705685 : Int64))) (27 : Int32)) * (own_inv (-4658895280553007687 : Int64))) (30 : Int32)))]))
  refine own_st (fun _ k => XS.i2l X6.here hx rfl (hb hby at_50) rfl k) ?_
  show own_Go p e below _ (T6.setTop (mkF m 51 #[.val (.long q0), .second, .val (.int p1), .val (.long (own_d q0 p1)), .second, .val (.long (own_uns ((own_uns ((own_uns (own_d q0 p1) (31 : Int32)) * (own_inv (-7723592293110705685 : Int64))) (27 : Int32)) * (own_inv (-4658895280553007687 : Int64))) (30 : Int32))), .second] [(.long (p1.toInt64)), (.long q0), (.long (own_uns ((own_uns ((own_uns (own_d q0 p1) (31 : Int32)) * (own_inv (-7723592293110705685 : Int64))) (27 : Int32)) * (own_inv (-4658895280553007687 : Int64))) (30 : Int32)))]))
  refine own_st (fun _ k => X6.ldc2Long hx hown (mvT hZ (hw _ (List.mem_of_getElem? (i := 17) rfl))) (g := (mkF m 51 #[.val (.long q0), .second, .val (.int p1), .val (.long (own_d q0 p1)), .second, .val (.long (own_uns ((own_uns ((own_uns (own_d q0 p1) (31 : Int32)) * (own_inv (-7723592293110705685 : Int64))) (27 : Int32)) * (own_inv (-4658895280553007687 : Int64))) (30 : Int32))), .second] [(.long (p1.toInt64)), (.long q0), (.long (own_uns ((own_uns ((own_uns (own_d q0 p1) (31 : Int32)) * (own_inv (-7723592293110705685 : Int64))) (27 : Int32)) * (own_inv (-4658895280553007687 : Int64))) (30 : Int32)))])) rfl (hb hby at_51) _ k) ?_
  show own_Go p e below _ (T6.setTop (mkF m 54 #[.val (.long q0), .second, .val (.int p1), .val (.long (own_d q0 p1)), .second, .val (.long (own_uns ((own_uns ((own_uns (own_d q0 p1) (31 : Int32)) * (own_inv (-7723592293110705685 : Int64))) (27 : Int32)) * (own_inv (-4658895280553007687 : Int64))) (30 : Int32))), .second] [(.long (-7046029254386353131 : Int64)), (.long (p1.toInt64)), (.long q0), (.long (own_uns ((own_uns ((own_uns (own_d q0 p1) (31 : Int32)) * (own_inv (-7723592293110705685 : Int64))) (27 : Int32)) * (own_inv (-4658895280553007687 : Int64))) (30 : Int32)))]))
  refine own_st (fun _ k => XS.lmul X6.here hx rfl (hb hby at_54) rfl k) ?_
  show own_Go p e below _ (T6.setTop (mkF m 55 #[.val (.long q0), .second, .val (.int p1), .val (.long (own_d q0 p1)), .second, .val (.long (own_uns ((own_uns ((own_uns (own_d q0 p1) (31 : Int32)) * (own_inv (-7723592293110705685 : Int64))) (27 : Int32)) * (own_inv (-4658895280553007687 : Int64))) (30 : Int32))), .second] [(.long ((p1.toInt64) * (-7046029254386353131 : Int64))), (.long q0), (.long (own_uns ((own_uns ((own_uns (own_d q0 p1) (31 : Int32)) * (own_inv (-7723592293110705685 : Int64))) (27 : Int32)) * (own_inv (-4658895280553007687 : Int64))) (30 : Int32)))]))
  refine own_st (fun _ k => XS.ladd X6.here hx rfl (hb hby at_55) rfl k) ?_
  show own_Go p e below _ (T6.setTop (mkF m 56 #[.val (.long q0), .second, .val (.int p1), .val (.long (own_d q0 p1)), .second, .val (.long (own_uns ((own_uns ((own_uns (own_d q0 p1) (31 : Int32)) * (own_inv (-7723592293110705685 : Int64))) (27 : Int32)) * (own_inv (-4658895280553007687 : Int64))) (30 : Int32))), .second] [(.long (q0 + ((p1.toInt64) * (-7046029254386353131 : Int64)))), (.long (own_uns ((own_uns ((own_uns (own_d q0 p1) (31 : Int32)) * (own_inv (-7723592293110705685 : Int64))) (27 : Int32)) * (own_inv (-4658895280553007687 : Int64))) (30 : Int32)))]))
  refine own_st (fun _ k => XS.lcmp X6.here hx rfl (hb hby at_56) rfl k) ?_
  show own_Go p e below _ (T6.setTop (mkF m 57 #[.val (.long q0), .second, .val (.int p1), .val (.long (own_d q0 p1)), .second, .val (.long (own_uns ((own_uns ((own_uns (own_d q0 p1) (31 : Int32)) * (own_inv (-7723592293110705685 : Int64))) (27 : Int32)) * (own_inv (-4658895280553007687 : Int64))) (30 : Int32))), .second] [(.int (lcmpW (own_uns ((own_uns ((own_uns (own_d q0 p1) (31 : Int32)) * (own_inv (-7723592293110705685 : Int64))) (27 : Int32)) * (own_inv (-4658895280553007687 : Int64))) (30 : Int32)) (q0 + ((p1.toInt64) * (-7046029254386353131 : Int64)))))]))
  refine own_st (fun _ k => XS.ifNo X6.here hx rfl (hb hby at_57) rfl ((own_l0 _ _ _).trans (own_nyes (own_law q0 p1))) k) ?_
  show own_Go p e below _ (T6.setTop (mkF m 60 #[.val (.long q0), .second, .val (.int p1), .val (.long (own_d q0 p1)), .second, .val (.long (own_uns ((own_uns ((own_uns (own_d q0 p1) (31 : Int32)) * (own_inv (-7723592293110705685 : Int64))) (27 : Int32)) * (own_inv (-4658895280553007687 : Int64))) (30 : Int32))), .second] []))
  refine own_st (fun _ k => XS.iconst X6.here hx rfl (hb hby at_60) k) ?_
  show own_Go p e below _ (T6.setTop (mkF m 61 #[.val (.long q0), .second, .val (.int p1), .val (.long (own_d q0 p1)), .second, .val (.long (own_uns ((own_uns ((own_uns (own_d q0 p1) (31 : Int32)) * (own_inv (-7723592293110705685 : Int64))) (27 : Int32)) * (own_inv (-4658895280553007687 : Int64))) (30 : Int32))), .second] [(.int (1 : Int32))]))
  refine own_st (fun _ k => XS.goto X6.here hx rfl (pc0 := 61) (pc' := 65) rfl (hb hby at_61) (by decide) (by decide) k) ?_
  show own_Go p e below _ (T6.setTop (mkF m 65 #[.val (.long q0), .second, .val (.int p1), .val (.long (own_d q0 p1)), .second, .val (.long (own_uns ((own_uns ((own_uns (own_d q0 p1) (31 : Int32)) * (own_inv (-7723592293110705685 : Int64))) (27 : Int32)) * (own_inv (-4658895280553007687 : Int64))) (30 : Int32))), .second] [(.int (1 : Int32))]))
  exact own_retZ X6 hx hlk hret rfl (hb hby at_65) ⟨rfl, N0⟩ (by decide) (by decide)
set_option maxRecDepth 65536 in
set_option maxHeartbeats 40000000 in
theorem comes_1 {Post : Tables → Env → Array Value → State → Outcome → State → Prop} (hpost : ∀ tb e args s v u, (limb_1_1.after args s (.returned v) u = true ∧ limb_1_2.after args s (.returned v) u = true ∧ True) → FrameEnd s (.returned v) u (Jvm.fieldLocs frame_1_writes args s ++ Jvm.arrayLocs frame_1_arrays args s ++ Jvm.staticLocs frame_1_statics s) 0 0 → Post tb e args s (.returned v) u) :
    ArmFor flags0 classFile x code maxLocals ret World_1 tables_1 room_1 Calls_1 rest_1 Pre_1 Post := by
  intro l hfl _ _ p e ha hc hk s m args below hf hA hF happ hP
  obtain ⟨hcalls, hrest, hpre⟩ := hP
  obtain ⟨-, -, -, hnamed, -, -, -, hat⟩ := (Spec.applies_iff hf).mp happ
  obtain ⟨hg, hn⟩ := and_e (Cond.before_iff.mp (show (Jvm.Cond.and given_1 narrow_1).before args s = true from hpre))
  obtain ⟨g1, g2⟩ := and_e hg
  obtain ⟨g3, g4⟩ := and_e g2
  obtain ⟨w0, w1, rfl⟩ : ∃ w0 w1 : Value, args = #[w0, w1] := by
    have hs : args.size = 2 := by simpa [Cond.value, given_1] using g1
    obtain ⟨L⟩ := args
    match L, hs with
    | [w0, w1], _ => exact ⟨w0, w1, rfl⟩
  have hw := fun d (hd : d ∈ tables_1) => atoms_spec (ws := Jvm.Cond.code x code maxLocals ret :: tables_1) hat d (List.mem_cons_of_mem _ hd)
  obtain ⟨i0, ei0⟩ := isL_v g3
  obtain rfl : w0 = (.long i0) := Option.some.inj ei0
  obtain ⟨i1, ei1⟩ := is_v g4
  obtain rfl : w1 = (.int i1) := Option.some.inj ei1
  obtain ⟨n, o, h1, h2, h3, _, L, rfl, ⟨rfl, N⟩, hq⟩ := rm0 l s _ hw i0 i1 s.heap s.heap.size (Nat.le_refl _) p e ha hc hk s m _ below hf ((Spec.applies_iff_loose hf).mp happ).1 ⟨rfl, State.Warmed39.refl s, rfl⟩ trivial
  refine ⟨n, _, h1, h2, h3, hpost _ _ _ _ _ _ ⟨Cond.after_iff.mpr rfl, Cond.after_iff.mpr (eq_i res_at (Term.int_eval (1)) rfl), trivial⟩ ⟨hq.1, hq.2.1, (hq.2.2.sift fun y hy => Or.inr (N y hy)).mono (by decide) (by decide)⟩⟩
theorem main_1_1 : Claimed_1_1 := comes_1 fun _ _ _ _ _ _ h hF => ⟨h.1, hF⟩
theorem main_1_2 : Claimed_1_2 := comes_1 fun _ _ _ _ _ _ h hF => ⟨h.2.1, hF⟩
end Jvm.Pilot.@@N@@
namespace Jvm.Pilot.@@N@@
open Jvm Jvm.ClassFile Sem Op Lib Jvm.Free Jvm.Stand Jvm.Pilot.@@N@@.Jvm.D
/-! MADE BY PROGRAM (witnessworld.py) out of the Statement's table words and the real class files: 9 classes; the members and pool entries that the words name. The judged class is class 1, her method 3. -/
namespace start1
open Jvm.ClassFile
def u (s : String) : CpInfo := .utf8 (stringToUtf16 s)
/-- a pool by its gaps: so many unusable entries, then the entry; so many at the end -/
def gap : Nat → List CpInfo → List CpInfo
  | 0, r => r
  | n + 1, r => .unusable :: gap n r
def poolList (es : List (Nat × CpInfo)) (last : Nat) : List CpInfo := es.foldr (fun e r => gap e.1 (e.2 :: r)) (gap last [])
def pool (es : List (Nat × CpInfo)) (last : Nat) : Array CpInfo := ⟨poolList es last⟩
def fileOf (pool : Array CpInfo) (this : Nat) (attrs : Array Attribute := #[]) (ms : Array MethodInfo := #[]) (fl : Nat := 33) (sup : Nat := 0) (ifs : Array Nat := #[]) (fds : Array FieldInfo := #[]) : ClassFile where
  minorVersion := 0
  majorVersion := 65
  constantPool := pool
  accessFlags := fl
  thisClass := this
  superClass := sup
  interfaces := ifs
  fields := fds
  methods := ms
  attributes := attrs
def plain (name : String) (sup : Option ClassId) : Class where
  name := name
  kind := .ordinary
  loader := none
  accessFlags := 33
  super := sup
  interfaces := #[]
  cf := none
  fields := #[]
  methods := #[]
  instanceTypes := #[]
  staticTypes := #[]
  resolved := #[]
  callSites := []
  init := .initialized
  statics := none
  mirror := none

def pool0 : Array CpInfo := pool [(5, u "<init>"), (0, u "()V"), (1, .class_ 10), (1, u "java/lang/Object")] 113

def k0m0 : Method := { name := "<init>", desc := "()V", sig := { parameters := [], returnType := none }, accessFlags := 1, code := none }
/-- java/lang/Object -/
def k0 : Class := { plain "java/lang/Object" none with
  accessFlags := 33
  interfaces := #[]
  cf := some (fileOf pool0 8 #[] #[{ accessFlags := 1, nameIndex := 5, descriptorIndex := 6, attributes := #[] }] 33 0 #[] #[])
  fields := #[]
  methods := #[k0m0]
  instanceTypes := #[]
  staticTypes := #[]
  resolved := Array.replicate 124 none
  statics := none }

def pool1 : Array CpInfo := pool [(2, .class_ 4), (1, u "java/lang/Object"), (0, u "<init>"), (0, u "()V"), (0, .long 2), (1, .methodref 10 11), (0, .class_ 12), (0, .nameAndType 13 14), (0, u "com/example/accordant/accordant/Seeds"), (0, u "derived"), (0, u "(JI)J"), (0, .methodref 16 17), (0, .class_ 18), (0, .nameAndType 19 14), (0, u "com/example/accordant/accordant/SeedsDerivedPinLaw"), (0, u "unshift"), (0, .long 10723151780598845931), (1, .methodref 16 23), (0, .nameAndType 24 25), (0, u "inverse"), (0, u "(J)J"), (0, .long 13787848793156543929), (1, .long 11400714819323198485), (3, u "law"), (0, u "(JI)Z")] 3

def k1m0 : Method := { name := "<init>", desc := "()V", sig := { parameters := [], returnType := none }, accessFlags := 2, code := none }
def k1c1 : Code := { maxStack := 8, maxLocals := 4, code := method_2_code, exceptionTable := #[], attributes := #[] }
def k1m1 : Method := { name := "inverse", desc := "(J)J", sig := { parameters := [.long], returnType := some .long }, accessFlags := 10, code := some k1c1 }
def k1c2 : Code := { maxStack := 6, maxLocals := 3, code := method_3_code, exceptionTable := #[], attributes := #[] }
def k1m2 : Method := { name := "unshift", desc := "(JI)J", sig := { parameters := [.long, .int], returnType := some .long }, accessFlags := 10, code := some k1c2 }
def k1c3 : Code := { maxStack := 8, maxLocals := 7, code := code, exceptionTable := #[], attributes := #[] }
def k1m3 : Method := { name := "law", desc := "(JI)Z", sig := { parameters := [.long, .int], returnType := some .boolean }, accessFlags := 9, code := some k1c3 }
/-- com/example/accordant/accordant/SeedsDerivedPinLaw -/
def k1 : Class := { plain "com/example/accordant/accordant/SeedsDerivedPinLaw" (some 0) with
  accessFlags := 49
  interfaces := #[]
  cf := some (fileOf pool1 16 #[] #[{ accessFlags := 2, nameIndex := 5, descriptorIndex := 6, attributes := #[] }, { accessFlags := 10, nameIndex := 24, descriptorIndex := 25, attributes := #[] }, { accessFlags := 10, nameIndex := 19, descriptorIndex := 14, attributes := #[] }, { accessFlags := 9, nameIndex := 32, descriptorIndex := 33, attributes := #[] }] 49 2 #[] #[])
  fields := #[]
  methods := #[k1m0, k1m1, k1m2, k1m3]
  instanceTypes := #[]
  staticTypes := #[]
  resolved := Array.replicate 37 none
  statics := none }

def pool2 : Array CpInfo := pool [(2, .class_ 4), (1, u "java/lang/Object"), (0, u "<init>"), (0, u "()V"), (0, .long 11400714819323198485), (1, .long 13787848793156543929), (1, .long 10723151780598845931), (1, .class_ 14), (0, u "com/example/accordant/accordant/Seeds"), (0, u "MEDIATOR"), (0, u "I"), (4, u "derived"), (0, u "(JI)J")] 2

def k2m0 : Method := { name := "<init>", desc := "()V", sig := { parameters := [], returnType := none }, accessFlags := 2, code := none }
def k2c1 : Code := { maxStack := 6, maxLocals := 5, code := prog_56_method_2_code, exceptionTable := #[], attributes := #[] }
def k2m1 : Method := { name := "derived", desc := "(JI)J", sig := { parameters := [.long, .int], returnType := some .long }, accessFlags := 8, code := some k2c1 }
/-- com/example/accordant/accordant/Seeds -/
def k2 : Class := { plain "com/example/accordant/accordant/Seeds" (some 0) with
  accessFlags := 48
  interfaces := #[]
  cf := some (fileOf pool2 13 #[] #[{ accessFlags := 2, nameIndex := 5, descriptorIndex := 6, attributes := #[] }, { accessFlags := 8, nameIndex := 21, descriptorIndex := 22, attributes := #[] }] 48 2 #[] #[{ accessFlags := 24, nameIndex := 15, descriptorIndex := 16, attributes := #[] }])
  fields := #[{ name := "MEDIATOR", type := .int, accessFlags := 24, slot := 0, constantValue := 0 }]
  methods := #[k2m0, k2m1]
  instanceTypes := #[]
  staticTypes := #[.int]
  resolved := Array.replicate 25 none
  statics := none }

def pool3 : Array CpInfo := pool [(1, u "java/lang/Cloneable"), (0, .class_ 1), (0, u "java/lang/Object"), (0, .class_ 3)] 3

/-- java/lang/Cloneable -/
def k3 : Class := { plain "java/lang/Cloneable" (some 0) with
  accessFlags := 1537
  interfaces := #[]
  cf := some (fileOf pool3 2 #[] #[] 1537 4 #[] #[])
  fields := #[]
  methods := #[]
  instanceTypes := #[]
  staticTypes := #[]
  resolved := Array.replicate 8 none
  statics := none }

def pool4 : Array CpInfo := pool [(1, u "java/io/Serializable"), (0, .class_ 1), (0, u "java/lang/Object"), (0, .class_ 3)] 3

/-- java/io/Serializable -/
def k4 : Class := { plain "java/io/Serializable" (some 0) with
  accessFlags := 1537
  interfaces := #[]
  cf := some (fileOf pool4 2 #[] #[] 1537 4 #[] #[])
  fields := #[]
  methods := #[]
  instanceTypes := #[]
  staticTypes := #[]
  resolved := Array.replicate 8 none
  statics := none }

/-- the primitive byte -/
def k5 : Class := { plain "byte" none with kind := .primitive 'B', accessFlags := 0x411 }
/-- [B -/
def k6 : Class := { plain "[B" (some 0) with kind := .array 5 .byte, interfaces := #[3, 4], accessFlags := 1041 }

/-- the primitive int -/
def k7 : Class := { plain "int" none with kind := .primitive 'I', accessFlags := 0x411 }
/-- [I -/
def k8 : Class := { plain "[I" (some 0) with kind := .array 7 .int, interfaces := #[3, 4], accessFlags := 1041 }

def heap : Heap := #[]
def classes : Array Class := #[k0, k1, k2, k3, k4, k5, k6, k7, k8]
def interned : List (Array UInt16 × Addr) := []
def slotsUsed : Nat := 0
def theMethod : MethodId := ⟨1, 3⟩
def args0 : Array Value := #[.long 5, .int 3]
def aboutOver (below : List Frame) : State where
  vm := { classes := classes, interned := interned.toArray }
  heap := heap
  slotsUsed := slotsUsed
  threads := #[{ frames := .invoking theMethod args0 :: below }]
def below0 : List Frame := [.native { method := ⟨0, 0⟩, args := #[] }]
def about1 : State := aboutOver below0
def p0 : Program := .bare "" "" ""
def e0 : Env := launch0.env 0 0 0
theorem w_frames : about1.frames = Frame.invoking theMethod args0 :: below0 := rfl
set_option maxRecDepth 65536 in
theorem w_args : argsFit about1.vm theMethod args0 = true := by decide +kernel
set_option maxRecDepth 65536 in
theorem w_heap : heapFits about1 = true := by decide +kernel
set_option maxRecDepth 65536 in
theorem w_runnable : about1.curStatus? = some .runnable := by decide +kernel
set_option maxRecDepth 65536 in
theorem w_alone : about1.alone = true := by decide +kernel
set_option maxRecDepth 65536 in
theorem w_named : about1.methodNamed? x = some theMethod := by decide +kernel
set_option maxRecDepth 65536 in
theorem w_hears : about1.hears theMethod below0 = true := by decide +kernel
set_option maxRecDepth 65536 in
theorem w_ripe : about1.ripe theMethod args0 below0 = true := by decide +kernel
theorem w_running : about1.status = .running := rfl
set_option maxRecDepth 65536 in
theorem w_room : about1.hasRoom e0.platform room_1 = true :=
  launch0.hasRoom_least _ room_1 (by decide +kernel) (by decide +kernel) (by decide +kernel) (by decide +kernel) (by decide +kernel) (by decide +kernel)
theorem allAtoms_all (ts : List Jvm.Cond) (a : Array Jvm.Value) (st : Jvm.State) : (allAtoms ts).before a st = ts.all (fun c => c.before a st) := by
  induction ts with
  | nil => rfl
  | cons c t ih =>
    show (Jvm.Cond.and c (allAtoms t)).before a st = _
    rw [Jvm.Cond.before_and, ih, List.all_cons]
def words1 : List Jvm.Cond := Jvm.Cond.code x code maxLocals ret :: tables_1
/-- a 'code' word, met by the world's own term for the bytes: nothing is compared byte by byte -/
theorem code_word {y : MethodName} {bytes : ByteArray} {mx : Nat} {rt : Option FieldType} {a : Array Value} {s : State} {m : MethodId} {meth : Method} {c : Code} (h1 : s.methodNamed? y = some m) (h2 : s.vm.method? m = some meth) (h3 : meth.code = some c) (h4 : c.code = bytes)
    (h5 : (c.maxLocals == mx && c.exceptionTable.isEmpty && decide (c.maxStack ≤ mostOperands) && decide (meth.sig.returnType = rt) && !meth.locks && decide (parseMethodDescriptor y.desc = some meth.sig)) = true) : (Jvm.Cond.code y bytes mx rt).before a s = true := by
  simp only [Bool.and_eq_true, beq_iff_eq, Bool.not_eq_true', decide_eq_true_eq] at h5
  obtain ⟨⟨⟨⟨⟨g1, g2⟩, g3⟩, g4⟩, g5⟩, g6⟩ := h5
  simp [Cond.before, Cond.holds, Cond.value, h1, h2, h3, h4, g1, g2, g3, g4, g5, g6]
def isCode : Jvm.Cond → Bool
  | .code _ _ _ _ => true
  | _ => false
theorem all_split {L : List Jvm.Cond} {P : Jvm.Cond → Bool} (h1 : L.all (fun c => isCode c || P c) = true) (h2 : ∀ c ∈ L.filter isCode, P c = true) : L.all P = true := by
  refine List.all_eq_true.mpr fun c hc => ?_
  have h := List.all_eq_true.mp h1 c hc
  rcases Bool.eq_false_or_eq_true (isCode c) with hi | hi
  · exact h2 c (List.mem_filter.mpr ⟨hc, hi⟩)
  · simpa [hi] using h
set_option maxRecDepth 65536 in
theorem w_c0 : (Jvm.Cond.code x code maxLocals ret).before args0 about1 = true := code_word (m := ⟨1, 3⟩) (meth := k1m3) (c := k1c3) (by decide +kernel) rfl rfl rfl (by decide +kernel)
set_option maxRecDepth 65536 in
theorem w_c1 : (Jvm.Cond.code ({ cls := "com/example/accordant/accordant/Seeds", name := "derived", desc := "(JI)J" } : Jvm.MethodName) prog_56_method_2_code (5 : Nat) (Option.some Jvm.ClassFile.FieldType.long)).before args0 about1 = true := code_word (m := ⟨2, 1⟩) (meth := k2m1) (c := k2c1) (by decide +kernel) rfl rfl rfl (by decide +kernel)
set_option maxRecDepth 65536 in
theorem w_c2 : (Jvm.Cond.code ({ cls := "com/example/accordant/accordant/SeedsDerivedPinLaw", name := "unshift", desc := "(JI)J" } : Jvm.MethodName) method_3_code (3 : Nat) (Option.some Jvm.ClassFile.FieldType.long)).before args0 about1 = true := code_word (m := ⟨1, 2⟩) (meth := k1m2) (c := k1c2) (by decide +kernel) rfl rfl rfl (by decide +kernel)
set_option maxRecDepth 65536 in
theorem w_c3 : (Jvm.Cond.code ({ cls := "com/example/accordant/accordant/SeedsDerivedPinLaw", name := "inverse", desc := "(J)J" } : Jvm.MethodName) method_2_code (4 : Nat) (Option.some Jvm.ClassFile.FieldType.long)).before args0 about1 = true := code_word (m := ⟨1, 1⟩) (meth := k1m1) (c := k1c1) (by decide +kernel) rfl rfl rfl (by decide +kernel)
def codes1 : List Jvm.Cond := [Jvm.Cond.code x code maxLocals ret, Jvm.Cond.code ({ cls := "com/example/accordant/accordant/Seeds", name := "derived", desc := "(JI)J" } : Jvm.MethodName) prog_56_method_2_code (5 : Nat) (Option.some Jvm.ClassFile.FieldType.long), Jvm.Cond.code ({ cls := "com/example/accordant/accordant/SeedsDerivedPinLaw", name := "unshift", desc := "(JI)J" } : Jvm.MethodName) method_3_code (3 : Nat) (Option.some Jvm.ClassFile.FieldType.long), Jvm.Cond.code ({ cls := "com/example/accordant/accordant/SeedsDerivedPinLaw", name := "inverse", desc := "(J)J" } : Jvm.MethodName) method_2_code (4 : Nat) (Option.some Jvm.ClassFile.FieldType.long)]
set_option maxRecDepth 65536 in
theorem codes_eq : words1.filter isCode = codes1 := rfl
theorem w_codes : ∀ c ∈ words1.filter isCode, c.before args0 about1 = true := by
  rw [codes_eq]
  intro c hc
  simp only [codes1, List.mem_cons, List.not_mem_nil, or_false] at hc
  rcases hc with rfl | rfl | rfl | rfl
  · exact w_c0
  · exact w_c1
  · exact w_c2
  · exact w_c3
set_option maxRecDepth 65536 in
theorem w_t1 : words1.all (fun c => isCode c || c.before args0 about1) = true := by decide +kernel
theorem w_tables : (allAtoms (Jvm.Cond.code x code maxLocals ret :: tables_1)).before args0 about1 = true := by
  rw [allAtoms_all]
  show words1.all (fun c => c.before args0 about1) = true
  refine all_split ?_ w_codes
  rw [w_t1]
set_option maxRecDepth 65536 in
theorem w_case : (Jvm.Cond.and given_1 narrow_1).before args0 about1 = true := by decide +kernel
theorem w_applies : (headSpec (Jvm.Cond.code x code maxLocals ret :: tables_1) room_1).applies x e0.platform about1 = true :=
  (Spec.applies_iff w_frames).mpr ⟨w_running, w_runnable, w_alone, w_named, w_hears, w_ripe, w_room, w_tables⟩
theorem atStart : AtStart classFile x code maxLocals ret World_1 tables_1 room_1 Calls_1 rest_1 Pre_1 launch0 p0 e0 about1 theMethod args0 below0 :=
  ⟨lists_1, trivial, launch0.admits_env _ _ _, launch0.least_env, fairChoices_fair.cas, fairChoices_fair.clock, w_frames, w_args, w_heap, w_applies, trivial, trivial, w_case⟩
end start1
theorem witness_1 : WitnessClaimed_1 := ⟨start1.p0, start1.e0, start1.about1, start1.theMethod, start1.args0, start1.below0, start1.atStart⟩
end Jvm.Pilot.@@N@@
