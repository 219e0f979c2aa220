import JvmDerived
import JvmDerived.Pilot.@@N@@Statement
import JvmDerived.Pilot.@@N@@Code
set_option linter.unusedVariables false
set_option linter.unusedSimpArgs false
namespace Jvm.Pilot.@@N@@
open Jvm Jvm.ClassFile Sem Op Lib Jvm.Free Jvm.Stand Jvm.LawKit Jvm.RoadKit Bundle Jvm.Pilot.@@N@@.Jvm.D
section OwnKit
variable {p : Program} {l : Launch} {e : Env} {R : Room} {s : State} {m : MethodId} {args : Array Value} {below : List Frame} {meth : Method} {c : Code} {T : State} {locs : List Loc} {cells slots : Nat} {Z : State} {a0 : Array Value} {h : Heap}
/-- from the state U on the run comes to an end of which Q holds -/
def own_Go (p : Program) (e : Env) (below : List Frame) (Q : Outcome → State → Prop) (U : State) : Prop :=
  ∃ u o, Steps p.tables e below U u ∧ u.status = .running ∧ Ended u below o ∧ Q o u
theorem own_st {Q : Outcome → State → Prop} {U V : State} (k : ∀ t, Steps p.tables e below V t → Steps p.tables e below U t) (q : own_Go p e below Q V) : own_Go p e below Q U := by
  obtain ⟨u, o, h1, h2⟩ := q
  exact ⟨u, o, k _ h1, h2⟩
theorem own_tr {Q : Outcome → State → Prop} {U V : State} (k : Steps p.tables e below U V) (q : own_Go p e below Q V) : own_Go p e below Q U := by
  obtain ⟨u, o, h1, h2⟩ := q
  exact ⟨u, o, k.trans h1, h2⟩
/-- what a body leaves, said of its end -/
abbrev own_Post (s : State) (Qc : Option Value → Heap → List Loc → Prop) (k n : Nat) : Outcome → State → Prop := fun o u => ∃ v L, o = .returned v ∧ Qc v u.heap L ∧ FrameEnd s o u L k n
theorem own_body {y : MethodName} {bytes : ByteArray} {maxL : Nat} {ret : Option FieldType} {ws : List Jvm.Cond} {rm : Room} {as' : Array Value} {h0 : Heap} {Qc : Option Value → Heap → List Loc → Prop} {k n : Nat} (hpl : plainFor y = true)
    (body : ∀ (p : Program) (e : Env) (s : State) (m : MethodId) (below : List Frame) (meth : Method) (c : Code) (s₁ : State), Stand p l e rm s m as' below meth c s₁ [] 0 0 → p.tables.exec = Jvm.exec → Z.Warmed39 s.vm → c.code = bytes → c.maxLocals = maxL → s.vm.findClass y.cls = some m.cls →
      meth.sig.returnType = ret → meth.locks = false → meth.name = y.name → s₁.heap = h0 → own_Go p e below (own_Post s Qc k n) (s₁.setTop (entryFrame m as' maxL))) :
    MetFree l y (head1 (Jvm.Cond.code y bytes maxL ret :: ws) rm) (fun a U => a = as' ∧ Z.Warmed39 U.vm ∧ U.heap = h0) (fun _ _ _ _ _ => True) (fun _ U o U' => own_Post U Qc k n o U') := by
  refine MetFree.of_bodySF hpl hisR ?_
  intro p e s m args below meth c s₁ Bd hml0 hP hK
  obtain ⟨rfl, hZ, hh⟩ := hP
  exact body p e s m below meth c s₁ (Stand.of_body Bd) Bd.exec hZ Bd.bytes hml0 (findClass_of_methodNamed Bd.named) Bd.returns Bd.notSynchronized (name_of_methodNamed Bd.named Bd.method).1 (by rw [← hh, Bd.state]; rfl)
theorem own_end {Qc : Option Value → Heap → List Loc → Prop} {k n : Nat} {v : Option Value} (X : Stand p l e R s m args below meth c T locs cells slots) (hlk : meth.locks = false) (hv : meth.sig.returnType = none → v = none) {g : JFrame}
    (hst : ∀ fs, (∀ (f : JFrame) (acts : List Action), f.method = m → f.locked = none → f.entered = [] → (doReturn e (T.setTop f) acts v).1 = T.setFrames fs) → Steps p.tables e below (T.setTop g) (T.setFrames fs))
    (hQ : Qc v T.heap locs) (hk : cells ≤ k) (hn : slots ≤ n) : own_Go p e below (own_Post s Qc k n) (T.setTop g) := by
  obtain ⟨fs, hr, hrun, hended, hW, hsame⟩ := X.leave (v := v) hv hlk
  exact ⟨_, _, hst fs hr, hrun, hended, _, _, rfl, hQ, ⟨_, rfl⟩, hW, hsame.mono hk hn⟩
theorem own_retI {Qc : Option Value → Heap → List Loc → Prop} {k n : Nat} (X : Stand p l e R s m args below meth c T locs cells slots) (hx : p.tables.exec = Jvm.exec) (hlk : meth.locks = false) (hret : meth.sig.returnType = some .int) {pc : Nat} {Ls : Array Slot} {z : Int32} {rest : List Value}
    (hd : decode c.code pc = .ok (.ireturn, 1)) (hQ : Qc (some (.int z)) T.heap locs) (hk : cells ≤ k) (hn : slots ≤ n) : own_Go p e below (own_Post s Qc k n) (T.setTop (mkF m pc Ls (.int z :: rest))) :=
  own_end X hlk (fun q => by rw [hret] at q; cases q) (fun fs hr => retOut X hx hret (w := .int z) (t := .int) rfl (Or.inl ⟨rfl, Or.inl rfl, z, rfl⟩) hd hr) hQ hk hn
theorem own_retZ {Qc : Option Value → Heap → List Loc → Prop} {k n : Nat} (X : Stand p l e R s m args below meth c T locs cells slots) (hx : p.tables.exec = Jvm.exec) (hlk : meth.locks = false) (hret : meth.sig.returnType = some .boolean) {pc : Nat} {Ls : Array Slot} {z : Int32} {rest : List Value}
    (hz : narrow .boolean (.int z) = .int z) (hd : decode c.code pc = .ok (.ireturn, 1)) (hQ : Qc (some (.int z)) T.heap locs) (hk : cells ≤ k) (hn : slots ≤ n) : own_Go p e below (own_Post s Qc k n) (T.setTop (mkF m pc Ls (.int z :: rest))) :=
  own_end X hlk (fun q => by rw [hret] at q; cases q) (fun fs hr => retOut X hx hret (w := .int z) (t := .boolean) hz (Or.inl ⟨rfl, Or.inr (Or.inl rfl), z, rfl⟩) hd hr) hQ hk hn
theorem own_retJ {Qc : Option Value → Heap → List Loc → Prop} {k n : Nat} (X : Stand p l e R s m args below meth c T locs cells slots) (hx : p.tables.exec = Jvm.exec) (hlk : meth.locks = false) (hret : meth.sig.returnType = some .long) {pc : Nat} {Ls : Array Slot} {z : Int64} {rest : List Value}
    (hd : decode c.code pc = .ok (.lreturn, 1)) (hQ : Qc (some (.long z)) T.heap locs) (hk : cells ≤ k) (hn : slots ≤ n) : own_Go p e below (own_Post s Qc k n) (T.setTop (mkF m pc Ls (.long z :: rest))) :=
  own_end X hlk (fun q => by rw [hret] at q; cases q) (fun fs hr => retOut X hx hret (w := .long z) (t := .long) rfl (Or.inr (Or.inl ⟨rfl, rfl, z, rfl⟩)) hd hr) hQ hk hn
theorem own_retA {Qc : Option Value → Heap → List Loc → Prop} {k n : Nat} (X : Stand p l e R s m args below meth c T locs cells slots) (hx : p.tables.exec = Jvm.exec) (hlk : meth.locks = false) {t : FieldType} (hret : meth.sig.returnType = some t) (ht : t.isReference = true) {pc : Nat} {Ls : Array Slot} {w : Value} (hw : w.isRef = true)
    (hd : decode c.code pc = .ok (.areturn, 1)) (hQ : Qc (some w) T.heap locs) (hk : cells ≤ k) (hn : slots ≤ n) : own_Go p e below (own_Post s Qc k n) (T.setTop (mkF m pc Ls [w])) :=
  own_end X hlk (fun q => by rw [hret] at q; cases q) (fun fs hr => X.areturnOut hx hw hret ht hd hr) hQ hk hn
theorem own_retV {Qc : Option Value → Heap → List Loc → Prop} {k n : Nat} (X : Stand p l e R s m args below meth c T locs cells slots) (hx : p.tables.exec = Jvm.exec) (hlk : meth.locks = false) (hret : meth.sig.returnType = none) {pc : Nat} {Ls : Array Slot}
    (hd : decode c.code pc = .ok (.return_, 1)) (hQ : Qc none T.heap locs) (hk : cells ≤ k) (hn : slots ≤ n) : own_Go p e below (own_Post s Qc k n) (T.setTop (mkF m pc Ls [])) :=
  own_end X hlk (fun _ => rfl) (fun fs hr => X.returnOut hx hret hd hr) hQ hk hn
/-- a callee's contract, as own_body proves it and the three calls below spend it -/
abbrev own_Met (l : Launch) (Z : State) (y : MethodName) (bytes : ByteArray) (maxL : Nat) (ret : Option FieldType) (rm : Room) (as' : Array Value) (h0 : Heap) (Qc : Option Value → Heap → List Loc → Prop) : Prop :=
  MetFree l y (head1 [Jvm.Cond.code y bytes maxL ret] rm) (fun a U => a = as' ∧ Z.Warmed39 U.vm ∧ U.heap = h0) (fun _ _ _ _ _ => True) (fun _ U o U' => own_Post U Qc rm.cells rm.slots o U')
theorem own_callS (X : Stand p l e R s m args below meth c T locs cells slots) (hx : p.tables.exec = Jvm.exec) (hZ : Z.Warmed39 s.vm) {own : String} {index : Nat} {y : MethodName} {bytes : ByteArray} {maxL : Nat} {ret : Option FieldType} {rm : Room} {Qc : Option Value → Heap → List Loc → Prop} {argsL rest : List Value} {ps : List FieldType} {W : Nat} {g : JFrame}
    (hM : own_Met l Z y bytes maxL ret rm argsL.toArray h Qc) (hown : s.vm.findClass own = some m.cls) (w1 : (Jvm.Cond.methodLink own index y).before a0 Z = true) (w2 : (Jvm.Cond.static y).before a0 Z = true) (w3 : (Jvm.Cond.initialized y.cls).before a0 Z = true) (w4 : (Jvm.Cond.code y bytes maxL ret).before a0 Z = true)
    (hy : y.cls ≠ "java/lang/invoke/MethodHandle" ∧ y.cls ≠ "java/lang/invoke/VarHandle") (eT : T.heap = h) (hg : g.method = m) (hsize : g.locals.size = c.maxLocals) (hdesc : parseMethodDescriptor y.desc = some ⟨ps, ret⟩) (hlen : argsL.length = ps.length) (hstack : g.stack = argsL.reverse ++ rest)
    (hW : 2 * g.monitorRoom + (rest.map fun v => v.category).sum ≤ W) (hdg : decode c.code g.pc = .ok (.invokestatic index, 3)) (hf : rm.frames + 1 ≤ R.frames) (hl : W + (maxL + 11) + rm.locals ≤ R.locals) (hc : cells + rm.cells ≤ R.cells) (hs : slots + rm.slots ≤ R.slots) :
    ∃ v T' L, Stand p l e R s m args below meth c T' (locs ++ L) (cells + rm.cells) (slots + rm.slots) ∧ Qc v T'.heap L ∧ ∀ target, Steps p.tables e below (T'.setTop { g with pc := g.pc + 3, stack := v.toList ++ rest }) target → Steps p.tables e below (T.setTop g) target := by
  obtain ⟨v, _, ⟨T1, L1, k1, n1⟩, -, X1, ⟨L, hQ, q1, q2, q3⟩, st⟩ := Jvm.LawKit.callS X hx (y := y) hown (mvT hZ w1) (mvT hZ w2) (mvT hZ w3) (mvT hZ w4) hy (backOf (W := W) hM hZ w4 w3 hf hl) (g := g) hg hsize (lenOf hdesc hlen) hstack hW hdg (fun _ _ => ⟨rfl, eT, hc, hs⟩)
  dsimp only [Pt.U, Pt.locs, Pt.cells, Pt.slots] at X1 q1 q2 q3 st hQ
  subst q1 q2 q3
  exact ⟨v, T1, L, X1, hQ, st⟩
theorem own_callI (X : Stand p l e R s m args below meth c T locs cells slots) (hx : p.tables.exec = Jvm.exec) (hZ : Z.Warmed39 s.vm) {own : String} {index : Nat} {y : MethodName} {bytes : ByteArray} {maxL : Nat} {rm : Room} {Qc : Option Value → Heap → List Loc → Prop} {a : Addr} {argsL rest : List Value} {ps : List FieldType} {W : Nat} {g : JFrame}
    (hM : own_Met l Z y bytes maxL none rm (.ref a :: argsL).toArray h Qc) (hn : y.name = "<init>") (hown : s.vm.findClass own = some m.cls) (w1 : (Jvm.Cond.methodLink own index y).before a0 Z = true) (w2 : (Jvm.Cond.instanceMethod y).before a0 Z = true) (w3 : (Jvm.Cond.initialized y.cls).before a0 Z = true) (w4 : (Jvm.Cond.code y bytes maxL none).before a0 Z = true)
    (hy : y.cls ≠ "java/lang/invoke/MethodHandle" ∧ y.cls ≠ "java/lang/invoke/VarHandle") (eT : T.heap = h) (hg : g.method = m) (hsize : g.locals.size = c.maxLocals) (hdesc : parseMethodDescriptor y.desc = some ⟨ps, none⟩) (hlen : argsL.length = ps.length) (hstack : g.stack = argsL.reverse ++ .ref a :: rest)
    (hW : 2 * g.monitorRoom + (rest.map fun v => v.category).sum ≤ W) (hdg : decode c.code g.pc = .ok (.invokespecial index, 3)) (hf : rm.frames + 1 ≤ R.frames) (hl : W + (maxL + 11) + rm.locals ≤ R.locals) (hc : cells + rm.cells ≤ R.cells) (hs : slots + rm.slots ≤ R.slots) :
    ∃ v T' L, Stand p l e R s m args below meth c T' (locs ++ L) (cells + rm.cells) (slots + rm.slots) ∧ Qc v T'.heap L ∧ ∀ target, Steps p.tables e below (T'.setTop { g with pc := g.pc + 3, stack := v.toList ++ rest }) target → Steps p.tables e below (T.setTop g) target := by
  obtain ⟨v, _, ⟨T1, L1, k1, n1⟩, -, X1, ⟨L, hQ, q1, q2, q3⟩, st⟩ := X.specialBack hx (y := y) hn hown (mvT hZ w1) (mvT hZ w2) (mvT hZ w4) hy (backOf (W := W) hM hZ w4 w3 hf hl) (g := g) hg hsize (Steps.refl _) (a := a) (lenOf hdesc hlen) hstack hW hdg (fun _ _ => ⟨rfl, eT, hc, hs⟩)
  dsimp only [Pt.U, Pt.locs, Pt.cells, Pt.slots] at X1 q1 q2 q3 st hQ
  subst q1 q2 q3
  exact ⟨v, T1, L, X1, hQ, fun _ q => st.trans q⟩
theorem own_callV (X : Stand p l e R s m args below meth c T locs cells slots) (hx : p.tables.exec = Jvm.exec) (hZ : Z.Warmed39 s.vm) {own : String} {index : Nat} {y : MethodName} {bytes : ByteArray} {maxL : Nat} {ret : Option FieldType} {rm : Room} {Qc : Option Value → Heap → List Loc → Prop} {a : Addr} {argsL rest : List Value} {ps : List FieldType} {W : Nat} {g : JFrame}
    (hM : own_Met l Z y bytes maxL ret rm (.ref a :: argsL).toArray h Qc) (E : Exa Z h a y.cls) (hown : s.vm.findClass own = some m.cls) (w1 : (Jvm.Cond.methodLink own index y).before a0 Z = true) (w2 : (Jvm.Cond.declares y).before a0 Z = true) (w3 : (Jvm.Cond.selects y.cls y y).before a0 Z = true) (w4 : (Jvm.Cond.instanceMethod y).before a0 Z = true) (w5 : (Jvm.Cond.initialized y.cls).before a0 Z = true) (w6 : (Jvm.Cond.code y bytes maxL ret).before a0 Z = true)
    (hy : y.cls ≠ "java/lang/invoke/MethodHandle" ∧ y.cls ≠ "java/lang/invoke/VarHandle") (eT : T.heap = h) (hg : g.method = m) (hsize : g.locals.size = c.maxLocals) (hdesc : parseMethodDescriptor y.desc = some ⟨ps, ret⟩) (hlen : argsL.length = ps.length) (hstack : g.stack = argsL.reverse ++ .ref a :: rest)
    (hW : 2 * g.monitorRoom + (rest.map fun v => v.category).sum ≤ W) (hdg : decode c.code g.pc = .ok (.invokevirtual index, 3)) (hf : rm.frames + 1 ≤ R.frames) (hl : W + (maxL + 11) + rm.locals ≤ R.locals) (hc : cells + rm.cells ≤ R.cells) (hs : slots + rm.slots ≤ R.slots) :
    ∃ v T' L, Stand p l e R s m args below meth c T' (locs ++ L) (cells + rm.cells) (slots + rm.slots) ∧ Qc v T'.heap L ∧ ∀ target, Steps p.tables e below (T'.setTop { g with pc := g.pc + 3, stack := v.toList ++ rest }) target → Steps p.tables e below (T.setTop g) target := by
  obtain ⟨cq, kq, qa, qb, qc⟩ := isOf hZ eT E
  obtain ⟨v, _, ⟨T1, L1, k1, n1⟩, -, X1, ⟨L, hQ, q1, q2, q3⟩, st⟩ := X.virtualBack hx (y := y) (z := y) hown (mvT hZ w1) (mvT hZ w2) (notFace_of_selects (args := #[]) (mvT hZ w3)) (mvT hZ w3) (mvT hZ w4) hy (backOf (W := W) hM hZ w6 w5 hf hl) qa qc (g := g) hg hsize (Steps.refl _) (lenOf hdesc hlen) hstack hW hdg (fun _ _ => ⟨rfl, eT, hc, hs⟩)
  dsimp only [Pt.U, Pt.locs, Pt.cells, Pt.slots] at X1 q1 q2 q3 st hQ
  subst q1 q2 q3
  exact ⟨v, T1, L, X1, hQ, fun _ q => st.trans q⟩
/-- what a body that writes nothing leaves -/
abbrev own_P (v : Option Value) (h : Heap) : Option Value → Heap → List Loc → Prop := fun w h' L => w = v ∧ L = [] ∧ h' = h
theorem own_flat (X : Stand p l e R s m args below meth c T (locs ++ []) (cells + 0) (slots + 0)) : Stand p l e R s m args below meth c T locs cells slots := by
  rw [List.append_nil] at X
  exact X
def own_c32 : ClassFile.Cond → Int32 → Int32 → Bool
  | .lt, x, y => decide (x < y)
  | .ge, x, y => !decide (x < y)
  | .gt, x, y => decide (y < x)
  | .le, x, y => !decide (y < x)
  | .eq, x, y => decide (x = y)
  | .ne, x, y => !decide (x = y)
def own_c64 : ClassFile.Cond → Int64 → Int64 → Bool
  | .lt, x, y => decide (x < y)
  | .ge, x, y => !decide (x < y)
  | .gt, x, y => decide (y < x)
  | .le, x, y => !decide (y < x)
  | .eq, x, y => decide (x = y)
  | .ne, x, y => !decide (x = y)
theorem own_yes {P : Prop} [Decidable P] (q : P) : decide P = true := decide_eq_true q
theorem own_no {P : Prop} [Decidable P] (q : ¬ P) : decide P = false := decide_eq_false q
theorem own_nyes {P : Prop} [Decidable P] (q : P) : (!decide P) = false := by rw [decide_eq_true q]; rfl
theorem own_nno {P : Prop} [Decidable P] (q : ¬ P) : (!decide P) = true := by rw [decide_eq_false q]; rfl
theorem own_i2 (cd : ClassFile.Cond) (x y : Int32) : if_icmp.holds cd x y = own_c32 cd x y := by
  cases cd
  case lt => by_cases q : x < y; · exact (tlt q).1.trans (own_yes q).symm
             · exact (flt q).1.trans (own_no q).symm
  case ge => by_cases q : x < y; · exact (tlt q).2.1.trans (own_nyes q).symm
             · exact (flt q).2.1.trans (own_nno q).symm
  case gt => by_cases q : y < x; · exact (tlt q).2.2.1.trans (own_yes q).symm
             · exact (flt q).2.2.1.trans (own_no q).symm
  case le => by_cases q : y < x; · exact (tlt q).2.2.2.trans (own_nyes q).symm
             · exact (flt q).2.2.2.trans (own_nno q).symm
  case eq => by_cases q : x = y; · exact (teq q).1.trans (own_yes q).symm
             · exact (feq q).1.trans (own_no q).symm
  case ne => by_cases q : x = y; · exact (teq q).2.trans (own_nyes q).symm
             · exact (feq q).2.trans (own_nno q).symm
theorem own_i0 (cd : ClassFile.Cond) (x : Int32) : ifCond.holds cd x = own_c32 cd x 0 := (if0 cd x).trans (own_i2 cd x 0)
theorem own_l0 (cd : ClassFile.Cond) (x y : Int64) : ifCond.holds cd (lcmpW x y) = own_c64 cd x y := by
  rw [own_i0]
  have q1 := lw_lt x y
  have q2 := lw_gt x y
  have q3 := lw_eq x y
  cases cd <;> simp only [own_c32, own_c64, q1, q2, q3]
theorem own_ldI {a : Addr} {k : ClassId} {z j : Int32} {vs : List Value} {dv : Value} (F : Arv Z h a k .int z vs dv) (q : ¬ j < 0 ∧ j < z) : ∃ (cl : Cell) (v : Int32), Arr Z h a cl .int ∧ ¬ (j < 0 ∨ cl.slots.size ≤ j.toNatClampNeg) ∧ cl.slots[j.toNatClampNeg]? = some (.int v) := by
  obtain ⟨cl, A, -, S, M, H, G⟩ := F
  have hin := inb_of S q
  have hlt : j.toNatClampNeg < cl.slots.size := Nat.lt_of_not_le fun y => hin (Or.inr y)
  obtain ⟨v, hv⟩ := fit_I (G _ hlt) (Or.inl rfl)
  exact ⟨cl, v, A, hin, by rw [H _ hlt, hv]⟩
theorem own_len {a : Addr} {k : ClassId} {ty : FieldType} {z : Int32} {vs : List Value} {dv : Value} (F : Arv Z h a k ty z vs dv) : ∃ cl : Cell, Arr Z h a cl ty ∧ cl.slots.size = z.toNatClampNeg ∧ ¬ z < 0 := by
  obtain ⟨cl, A, -, S, M, -, -⟩ := F
  exact ⟨cl, A, S, M⟩
theorem own_at {a : Addr} {k : ClassId} {ty : FieldType} {z j : Int32} {vs : List Value} {dv : Value} (F : Arv Z h a k ty z vs dv) (q : ¬ j < 0 ∧ j < z) {i : Nat} (hj : j.toNatClampNeg = i) {v : Value} (hv : vs.getD i dv = v) : ∃ cl : Cell, Arr Z h a cl ty ∧ ¬ (j < 0 ∨ cl.slots.size ≤ j.toNatClampNeg) ∧ cl.slots[j.toNatClampNeg]? = some v := by
  obtain ⟨cl, A, -, S, M, H, -⟩ := F
  have hin := inb_of S q
  have hlt : j.toNatClampNeg < cl.slots.size := Nat.lt_of_not_le fun y => hin (Or.inr y)
  refine ⟨cl, A, hin, ?_⟩
  rw [H _ hlt, hj, hv]
end OwnKit

theorem pd_0 : parseMethodDescriptor "(II)I" = some ⟨[.int, .int], some .int⟩ := by decide +kernel
theorem pd_1 : parseMethodDescriptor "(I[I[I)V" = some ⟨[.int, (.array .int), (.array .int)], none⟩ := by decide +kernel
theorem pd_2 : parseMethodDescriptor "()V" = some ⟨[], none⟩ := by decide +kernel
theorem pd_3 : parseMethodDescriptor "(I)Z" = some ⟨[.int], some .boolean⟩ := by decide +kernel
def own_mn_9 (p0 : Int32) (p1 : Int32) : Int32 := p1
def own_mn_0 (p0 : Int32) (p1 : Int32) : Int32 := (if p1 < p0 then (own_mn_9 p0 p1) else p0)
theorem d1_0 : decode jdk_29_method_69_code 0 = .ok (.iload_n 0, 1) := by decide +kernel
theorem d1_1 : decode jdk_29_method_69_code 1 = .ok (.iload_n 1, 1) := by decide +kernel
theorem d1_2 : decode jdk_29_method_69_code 2 = .ok (.if_icmp .gt 7, 3) := by decide +kernel
theorem d1_5 : decode jdk_29_method_69_code 5 = .ok (.iload_n 0, 1) := by decide +kernel
theorem d1_6 : decode jdk_29_method_69_code 6 = .ok (.goto 4, 3) := by decide +kernel
theorem d1_9 : decode jdk_29_method_69_code 9 = .ok (.iload_n 1, 1) := by decide +kernel
theorem d1_10 : decode jdk_29_method_69_code 10 = .ok (.ireturn, 1) := by decide +kernel
theorem pn_1 : plainFor (⟨"java/lang/Math", "min", "(II)I"⟩ : MethodName) = true := Jvm.Free.JP.mathPlain rfl (by decide +kernel)
theorem ef_1 (m : MethodId) (x0 : Int32) (x1 : Int32) : entryFrame m #[(.int x0), (.int x1)] 2 = mkF m 0 #[.val (.int x0), .val (.int x1)] [] := by first | (simp [entryFrame, mkF, argsToLocals, Value.category]; done) | rfl
set_option maxRecDepth 65536 in
set_option maxHeartbeats 40000000 in
theorem rm1 (l : Launch) (Z : State) (tA : Array Value) (hw : ∀ d ∈ tables_1, d.before tA Z = true) (p0 : Int32) (p1 : Int32) (h0 : Heap) :
    own_Met l Z (⟨"java/lang/Math", "min", "(II)I"⟩ : MethodName) jdk_29_method_69_code 2 (some .int) ({ frames := 0, cells := 0, slots := 0, locals := 0 } : Room) #[(.int p0), (.int p1)] h0 (own_P (some (.int (own_mn_0 p0 p1))) h0) := by
  refine own_body pn_1 ?_
  intro p e s m below meth c s₁ X0 hx hZ hby hml hown hret hlk hnm e0
  have B9 : ∀ (T0 : State), Stand p l e ({ frames := 0, cells := 0, slots := 0, locals := 0 } : Room) s m #[(.int p0), (.int p1)] below meth c T0 [] 0 0 → T0.heap = h0 → own_mn_9 p0 p1 = own_mn_0 p0 p1 → own_Go p e below (own_Post s (own_P (some (.int (own_mn_0 p0 p1))) h0) ({ frames := 0, cells := 0, slots := 0, locals := 0 } : Room).cells ({ frames := 0, cells := 0, slots := 0, locals := 0 } : Room).slots) (T0.setTop (mkF m 9 #[.val (.int p0), .val (.int p1)] [])) := by
    intro T0 X0 e0 hbk
    show own_Go p e below _ (T0.setTop (mkF m 9 #[.val (.int p0), .val (.int p1)] []))
    refine own_st (fun _ k => XS.iloadN X0.here hx rfl (hb hby d1_9) rfl k) ?_
    show own_Go p e below _ (T0.setTop (mkF m 10 #[.val (.int p0), .val (.int p1)] [(.int p1)]))
    exact own_retI X0 hx hlk hret (hb hby d1_10) ⟨congrArg (fun z => some (Value.int z)) ((show own_mn_9 p0 p1 = p1 from rfl).symm.trans hbk), rfl, e0⟩ (by decide) (by decide)
  have B0 : ∀ (T0 : State), Stand p l e ({ frames := 0, cells := 0, slots := 0, locals := 0 } : Room) s m #[(.int p0), (.int p1)] below meth c T0 [] 0 0 → T0.heap = h0 → own_mn_0 p0 p1 = own_mn_0 p0 p1 → own_Go p e below (own_Post s (own_P (some (.int (own_mn_0 p0 p1))) h0) ({ frames := 0, cells := 0, slots := 0, locals := 0 } : Room).cells ({ frames := 0, cells := 0, slots := 0, locals := 0 } : Room).slots) (T0.setTop (mkF m 0 #[.val (.int p0), .val (.int p1)] [])) := by
    intro T0 X0 e0 hbk
    show own_Go p e below _ (T0.setTop (mkF m 0 #[.val (.int p0), .val (.int p1)] []))
    refine own_st (fun _ k => XS.iloadN X0.here hx rfl (hb hby d1_0) rfl k) ?_
    show own_Go p e below _ (T0.setTop (mkF m 1 #[.val (.int p0), .val (.int p1)] [(.int p0)]))
    refine own_st (fun _ k => XS.iloadN X0.here hx rfl (hb hby d1_1) rfl k) ?_
    show own_Go p e below _ (T0.setTop (mkF m 2 #[.val (.int p0), .val (.int p1)] [(.int p1), (.int p0)]))
    by_cases hc2 : p1 < p0
    · refine own_st (fun _ k => XS.icmpYes X0.here hx rfl (pc0 := 2) (pc' := 9) rfl (hb hby d1_2) rfl ((own_i2 _ _ _).trans (own_yes (hc2 : p1 < p0))) (by decide) (by decide) k) ?_
      show own_Go p e below _ (T0.setTop (mkF m 9 #[.val (.int p0), .val (.int p1)] []))
      exact B9 T0 X0 e0 ((show own_mn_0 p0 p1 = own_mn_9 p0 p1 from (if_pos hc2)).symm.trans hbk)
    · refine own_st (fun _ k => XS.icmpNo X0.here hx rfl (hb hby d1_2) rfl ((own_i2 _ _ _).trans (own_no (hc2 : ¬ (p1 < p0)))) k) ?_
      show own_Go p e below _ (T0.setTop (mkF m 5 #[.val (.int p0), .val (.int p1)] []))
      refine own_st (fun _ k => XS.iloadN X0.here hx rfl (hb hby d1_5) rfl k) ?_
      show own_Go p e below _ (T0.setTop (mkF m 6 #[.val (.int p0), .val (.int p1)] [(.int p0)]))
      refine own_st (fun _ k => XS.goto X0.here hx rfl (pc0 := 6) (pc' := 10) rfl (hb hby d1_6) (by decide) (by decide) k) ?_
      show own_Go p e below _ (T0.setTop (mkF m 10 #[.val (.int p0), .val (.int p1)] [(.int p0)]))
      exact own_retI X0 hx hlk hret (hb hby d1_10) ⟨congrArg (fun z => some (Value.int z)) ((show own_mn_0 p0 p1 = p0 from (if_neg hc2)).symm.trans hbk), rfl, e0⟩ (by decide) (by decide)
  rw [ef_1]
  exact B0 _ X0 e0 rfl
def own_mx_9 (p0 : Int32) (p1 : Int32) : Int32 := p1
def own_mx_0 (p0 : Int32) (p1 : Int32) : Int32 := (if p0 < p1 then (own_mx_9 p0 p1) else p0)
theorem d2_0 : decode jdk_29_method_65_code 0 = .ok (.iload_n 0, 1) := by decide +kernel
theorem d2_1 : decode jdk_29_method_65_code 1 = .ok (.iload_n 1, 1) := by decide +kernel
theorem d2_2 : decode jdk_29_method_65_code 2 = .ok (.if_icmp .lt 7, 3) := by decide +kernel
theorem d2_5 : decode jdk_29_method_65_code 5 = .ok (.iload_n 0, 1) := by decide +kernel
theorem d2_6 : decode jdk_29_method_65_code 6 = .ok (.goto 4, 3) := by decide +kernel
theorem d2_9 : decode jdk_29_method_65_code 9 = .ok (.iload_n 1, 1) := by decide +kernel
theorem d2_10 : decode jdk_29_method_65_code 10 = .ok (.ireturn, 1) := by decide +kernel
theorem pn_2 : plainFor (⟨"java/lang/Math", "max", "(II)I"⟩ : MethodName) = true := Jvm.Free.JP.mathPlain rfl (by decide +kernel)
theorem ef_2 (m : MethodId) (x0 : Int32) (x1 : Int32) : entryFrame m #[(.int x0), (.int x1)] 2 = mkF m 0 #[.val (.int x0), .val (.int x1)] [] := by first | (simp [entryFrame, mkF, argsToLocals, Value.category]; done) | rfl
set_option maxRecDepth 65536 in
set_option maxHeartbeats 40000000 in
theorem rm2 (l : Launch) (Z : State) (tA : Array Value) (hw : ∀ d ∈ tables_1, d.before tA Z = true) (p0 : Int32) (p1 : Int32) (h0 : Heap) :
    own_Met l Z (⟨"java/lang/Math", "max", "(II)I"⟩ : MethodName) jdk_29_method_65_code 2 (some .int) ({ frames := 0, cells := 0, slots := 0, locals := 0 } : Room) #[(.int p0), (.int p1)] h0 (own_P (some (.int (own_mx_0 p0 p1))) h0) := by
  refine own_body pn_2 ?_
  intro p e s m below meth c s₁ X0 hx hZ hby hml hown hret hlk hnm e0
  have B9 : ∀ (T0 : State), Stand p l e ({ frames := 0, cells := 0, slots := 0, locals := 0 } : Room) s m #[(.int p0), (.int p1)] below meth c T0 [] 0 0 → T0.heap = h0 → own_mx_9 p0 p1 = own_mx_0 p0 p1 → own_Go p e below (own_Post s (own_P (some (.int (own_mx_0 p0 p1))) h0) ({ frames := 0, cells := 0, slots := 0, locals := 0 } : Room).cells ({ frames := 0, cells := 0, slots := 0, locals := 0 } : Room).slots) (T0.setTop (mkF m 9 #[.val (.int p0), .val (.int p1)] [])) := by
    intro T0 X0 e0 hbk
    show own_Go p e below _ (T0.setTop (mkF m 9 #[.val (.int p0), .val (.int p1)] []))
    refine own_st (fun _ k => XS.iloadN X0.here hx rfl (hb hby d2_9) rfl k) ?_
    show own_Go p e below _ (T0.setTop (mkF m 10 #[.val (.int p0), .val (.int p1)] [(.int p1)]))
    exact own_retI X0 hx hlk hret (hb hby d2_10) ⟨congrArg (fun z => some (Value.int z)) ((show own_mx_9 p0 p1 = p1 from rfl).symm.trans hbk), rfl, e0⟩ (by decide) (by decide)
  have B0 : ∀ (T0 : State), Stand p l e ({ frames := 0, cells := 0, slots := 0, locals := 0 } : Room) s m #[(.int p0), (.int p1)] below meth c T0 [] 0 0 → T0.heap = h0 → own_mx_0 p0 p1 = own_mx_0 p0 p1 → own_Go p e below (own_Post s (own_P (some (.int (own_mx_0 p0 p1))) h0) ({ frames := 0, cells := 0, slots := 0, locals := 0 } : Room).cells ({ frames := 0, cells := 0, slots := 0, locals := 0 } : Room).slots) (T0.setTop (mkF m 0 #[.val (.int p0), .val (.int p1)] [])) := by
    intro T0 X0 e0 hbk
    show own_Go p e below _ (T0.setTop (mkF m 0 #[.val (.int p0), .val (.int p1)] []))
    refine own_st (fun _ k => XS.iloadN X0.here hx rfl (hb hby d2_0) rfl k) ?_
    show own_Go p e below _ (T0.setTop (mkF m 1 #[.val (.int p0), .val (.int p1)] [(.int p0)]))
    refine own_st (fun _ k => XS.iloadN X0.here hx rfl (hb hby d2_1) rfl k) ?_
    show own_Go p e below _ (T0.setTop (mkF m 2 #[.val (.int p0), .val (.int p1)] [(.int p1), (.int p0)]))
    by_cases hc2 : p0 < p1
    · refine own_st (fun _ k => XS.icmpYes X0.here hx rfl (pc0 := 2) (pc' := 9) rfl (hb hby d2_2) rfl ((own_i2 _ _ _).trans (own_yes (hc2 : p0 < p1))) (by decide) (by decide) k) ?_
      show own_Go p e below _ (T0.setTop (mkF m 9 #[.val (.int p0), .val (.int p1)] []))
      exact B9 T0 X0 e0 ((show own_mx_0 p0 p1 = own_mx_9 p0 p1 from (if_pos hc2)).symm.trans hbk)
    · refine own_st (fun _ k => XS.icmpNo X0.here hx rfl (hb hby d2_2) rfl ((own_i2 _ _ _).trans (own_no (hc2 : ¬ (p0 < p1)))) k) ?_
      show own_Go p e below _ (T0.setTop (mkF m 5 #[.val (.int p0), .val (.int p1)] []))
      refine own_st (fun _ k => XS.iloadN X0.here hx rfl (hb hby d2_5) rfl k) ?_
      show own_Go p e below _ (T0.setTop (mkF m 6 #[.val (.int p0), .val (.int p1)] [(.int p0)]))
      refine own_st (fun _ k => XS.goto X0.here hx rfl (pc0 := 6) (pc' := 10) rfl (hb hby d2_6) (by decide) (by decide) k) ?_
      show own_Go p e below _ (T0.setTop (mkF m 10 #[.val (.int p0), .val (.int p1)] [(.int p0)]))
      exact own_retI X0 hx hlk hret (hb hby d2_10) ⟨congrArg (fun z => some (Value.int z)) ((show own_mx_0 p0 p1 = p0 from (if_neg hc2)).symm.trans hbk), rfl, e0⟩ (by decide) (by decide)
  rw [ef_2]
  exact B0 _ X0 e0 rfl
theorem d3_0 : decode prog_4_method_1_code 0 = .ok (.aload_n 0, 1) := by decide +kernel
theorem d3_1 : decode prog_4_method_1_code 1 = .ok (.invokespecial 1, 3) := by decide +kernel
theorem d3_4 : decode prog_4_method_1_code 4 = .ok (.aload_n 0, 1) := by decide +kernel
theorem d3_5 : decode prog_4_method_1_code 5 = .ok (.iconst 2, 1) := by decide +kernel
theorem d3_6 : decode prog_4_method_1_code 6 = .ok (.newarray .long, 2) := by decide +kernel
theorem d3_8 : decode prog_4_method_1_code 8 = .ok (.dup, 1) := by decide +kernel
theorem d3_9 : decode prog_4_method_1_code 9 = .ok (.iconst 0, 1) := by decide +kernel
theorem d3_10 : decode prog_4_method_1_code 10 = .ok (.ldc2_w 7, 3) := by decide +kernel
theorem d3_13 : decode prog_4_method_1_code 13 = .ok (.lastore, 1) := by decide +kernel
theorem d3_14 : decode prog_4_method_1_code 14 = .ok (.dup, 1) := by decide +kernel
theorem d3_15 : decode prog_4_method_1_code 15 = .ok (.iconst 1, 1) := by decide +kernel
theorem d3_16 : decode prog_4_method_1_code 16 = .ok (.ldc2_w 7, 3) := by decide +kernel
theorem d3_19 : decode prog_4_method_1_code 19 = .ok (.lastore, 1) := by decide +kernel
theorem d3_20 : decode prog_4_method_1_code 20 = .ok (.putfield 9, 3) := by decide +kernel
theorem d3_23 : decode prog_4_method_1_code 23 = .ok (.aload_n 0, 1) := by decide +kernel
theorem d3_24 : decode prog_4_method_1_code 24 = .ok (.iload_n 1, 1) := by decide +kernel
theorem d3_25 : decode prog_4_method_1_code 25 = .ok (.putfield 15, 3) := by decide +kernel
theorem d3_28 : decode prog_4_method_1_code 28 = .ok (.aload_n 0, 1) := by decide +kernel
theorem d3_29 : decode prog_4_method_1_code 29 = .ok (.aload_n 2, 1) := by decide +kernel
theorem d3_30 : decode prog_4_method_1_code 30 = .ok (.putfield 19, 3) := by decide +kernel
theorem d3_33 : decode prog_4_method_1_code 33 = .ok (.aload_n 0, 1) := by decide +kernel
theorem d3_34 : decode prog_4_method_1_code 34 = .ok (.aload_n 3, 1) := by decide +kernel
theorem d3_35 : decode prog_4_method_1_code 35 = .ok (.putfield 23, 3) := by decide +kernel
theorem d3_38 : decode prog_4_method_1_code 38 = .ok (.return_, 1) := by decide +kernel
theorem pn_3 : plainFor (⟨"com/example/accordant/accordant/AliveTerms$Group", "<init>", "(I[I[I)V"⟩ : MethodName) = true := plainFor_of_name (by first | (simp [plainName, overriddenIn]; done) | decide +kernel)
theorem ef_3 (m : MethodId) (x0 : Addr) (x1 : Int32) (x2 : Addr) (x3 : Addr) : entryFrame m #[(.ref x0), (.int x1), (.ref x2), (.ref x3)] 4 = mkF m 0 #[.val (.ref x0), .val (.int x1), .val (.ref x2), .val (.ref x3)] [] := by first | (simp [entryFrame, mkF, argsToLocals, Value.category]; done) | rfl
set_option maxRecDepth 65536 in
set_option maxHeartbeats 40000000 in
theorem rm3 (l : Launch) (Z : State) (tA : Array Value) (hw : ∀ d ∈ tables_1, d.before tA Z = true) (a0 : Addr) (p1 : Int32) (a2 : Addr) (a3 : Addr) (h0 : Heap) (n0 : Nat) (Z0 : n0 ≤ h0.size) (g_a0 : n0 ≤ a0) (E0 : Exa Z h0 a0 "com/example/accordant/accordant/AliveTerms$Group") (F0 : Fld Z h0 a0 "com/example/accordant/accordant/AliveTerms$Group" "sums" "[J" .null) (F1 : Fld Z h0 a0 "com/example/accordant/accordant/AliveTerms$Group" "party" "I" (.int (0 : Int32))) (F2 : Fld Z h0 a0 "com/example/accordant/accordant/AliveTerms$Group" "issues" "[I" .null) (F3 : Fld Z h0 a0 "com/example/accordant/accordant/AliveTerms$Group" "terms" "[I" .null) :
    own_Met l Z (⟨"com/example/accordant/accordant/AliveTerms$Group", "<init>", "(I[I[I)V"⟩ : MethodName) prog_4_method_1_code 4 none ({ frames := 1, cells := 1, slots := 2, locals := 12 } : Room) #[(.ref a0), (.int p1), (.ref a2), (.ref a3)] h0 (fun v h L => v = none ∧ Fr n0 L ∧ Keep h0 h [a0] ∧ ∃ (b : Addr) (kb : ClassId), n0 ≤ b ∧ h0.size ≤ b ∧ Fld Z h a0 "com/example/accordant/accordant/AliveTerms$Group" "sums" "[J" (.ref b) ∧ Arv Z h b kb .long (2 : Int32) [(.long (-1 : Int64)), (.long (-1 : Int64))] (.long (0 : Int64)) ∧ Fld Z h a0 "com/example/accordant/accordant/AliveTerms$Group" "party" "I" (.int p1) ∧ Fld Z h a0 "com/example/accordant/accordant/AliveTerms$Group" "issues" "[I" (.ref a2) ∧ Fld Z h a0 "com/example/accordant/accordant/AliveTerms$Group" "terms" "[I" (.ref a3)) := by
  refine own_body pn_3 ?_
  intro p e s m below meth c s₁ X0 hx hZ hby hml hown hret hlk hnm e0
  have N0 := Fr.nil n0
  have K0 := Keep.refl h0 [a0]
  rw [ef_3]
  show own_Go p e below _ (s₁.setTop (mkF m 0 #[.val (.ref a0), .val (.int p1), .val (.ref a2), .val (.ref a3)] []))
  refine own_st (fun _ k => XS.aloadN X0.here hx rfl (hb hby d3_0) rfl rfl k) ?_
  show own_Go p e below _ (s₁.setTop (mkF m 1 #[.val (.ref a0), .val (.int p1), .val (.ref a2), .val (.ref a3)] [(.ref a0)]))
  obtain ⟨T1, X1, e1, st1⟩ := initO X0 hx hZ hown (hw _ (List.mem_of_getElem? (i := 14) rfl)) (hw _ (List.mem_of_getElem? (i := 15) rfl)) (hw _ (List.mem_of_getElem? (i := 16) rfl)) e0 (g := (mkF m 1 #[.val (.ref a0), .val (.int p1), .val (.ref a2), .val (.ref a3)] [(.ref a0)])) rfl (by rw [hml]; rfl) rfl (hb hby d3_1) (by decide) (W := 0) (by show 2 * 0 + _ ≤ _; exact Nat.le_of_eq rfl) (by decide)
  refine own_st st1 ?_
  show own_Go p e below _ (T1.setTop (mkF m 4 #[.val (.ref a0), .val (.int p1), .val (.ref a2), .val (.ref a3)] []))
  refine own_st (fun _ k => XS.aloadN X1.here hx rfl (hb hby d3_4) rfl rfl k) ?_
  show own_Go p e below _ (T1.setTop (mkF m 5 #[.val (.ref a0), .val (.int p1), .val (.ref a2), .val (.ref a3)] [(.ref a0)]))
  refine own_st (fun _ k => XS.iconst X1.here hx rfl (hb hby d3_5) k) ?_
  show own_Go p e below _ (T1.setTop (mkF m 6 #[.val (.ref a0), .val (.int p1), .val (.ref a2), .val (.ref a3)] [(.int (2 : Int32)), (.ref a0)]))
  obtain ⟨T2, h2, k2, X2, e2, E2, A2, st2⟩ := newP X1 hx hZ (hw _ (List.mem_of_getElem? (i := 17) rfl)) e1 (g := (mkF m 6 #[.val (.ref a0), .val (.int p1), .val (.ref a2), .val (.ref a3)] [(.int (2 : Int32)), (.ref a0)])) rfl (hb hby d3_6) rfl (by decide) (cap := 2) (by decide) (by decide) (by decide) (by decide)
  refine own_st st2 ?_
  obtain ⟨b2, g2⟩ : ∃ z, z = h0.size := ⟨_, rfl⟩
  rw [← g2] at A2 ⊢
  have g_b2 : n0 ≤ b2 := Nat.le_trans Z0 (Nat.le_of_eq g2.symm)
  have sz_b2 : h0.size ≤ b2 := Nat.le_trans K0.1 (Nat.le_of_eq g2.symm)
  have ne_a0_b2 : a0 ≠ b2 := Nat.ne_of_lt (Nat.lt_of_lt_of_le E0.lt (Nat.le_of_eq g2.symm))
  have ne_b2_a0 : b2 ≠ a0 := Ne.symm ne_a0_b2
  replace E0 := E0.ext E2
  replace F0 := F0.ext E2
  replace F1 := F1.ext E2
  replace F2 := F2.ext E2
  replace F3 := F3.ext E2
  replace Z0 := Nat.le_trans Z0 E2.1
  replace K0 := K0.ext E2
  have V_b2 : Arv Z h2 b2 k2 .long (2 : Int32) [(.long (0 : Int64)), (.long (0 : Int64))] (.long (0 : Int64)) := (Arv.new A2 (by decide)).pad (pad_rep [] (.long (0 : Int64)) 2)
  show own_Go p e below _ (T2.setTop (mkF m 8 #[.val (.ref a0), .val (.int p1), .val (.ref a2), .val (.ref a3)] [(.ref b2), (.ref a0)]))
  refine own_st (fun _ k => XS.dup X2.here hx rfl (hb hby d3_8) rfl rfl k) ?_
  show own_Go p e below _ (T2.setTop (mkF m 9 #[.val (.ref a0), .val (.int p1), .val (.ref a2), .val (.ref a3)] [(.ref b2), (.ref b2), (.ref a0)]))
  refine own_st (fun _ k => XS.iconst X2.here hx rfl (hb hby d3_9) k) ?_
  show own_Go p e below _ (T2.setTop (mkF m 10 #[.val (.ref a0), .val (.int p1), .val (.ref a2), .val (.ref a3)] [(.int (0 : Int32)), (.ref b2), (.ref b2), (.ref a0)]))
  refine own_st (fun _ k => X2.ldc2Long hx hown (mvT hZ (hw _ (List.mem_of_getElem? (i := 18) rfl))) (g := (mkF m 10 #[.val (.ref a0), .val (.int p1), .val (.ref a2), .val (.ref a3)] [(.int (0 : Int32)), (.ref b2), (.ref b2), (.ref a0)])) rfl (hb hby d3_10) _ k) ?_
  show own_Go p e below _ (T2.setTop (mkF m 13 #[.val (.ref a0), .val (.int p1), .val (.ref a2), .val (.ref a3)] [(.long (-1 : Int64)), (.int (0 : Int32)), (.ref b2), (.ref b2), (.ref a0)]))
  obtain ⟨cl3, Ar3, qc3, S3, M3, H3, G3⟩ := V_b2
  obtain ⟨T3, h3, X3, e3, W3, st3⟩ := stJ X2 hx hZ e2 Ar3 (j := (0 : Int32)) (inb_of S3 ⟨by decide, by decide⟩) (g := (mkF m 13 #[.val (.ref a0), .val (.int p1), .val (.ref a2), .val (.ref a3)] [(.long (-1 : Int64)), (.int (0 : Int32)), (.ref b2), (.ref b2), (.ref a0)])) rfl rfl (hb hby d3_13)
  refine own_st st3 ?_
  replace E0 := E0.wr W3
  replace F0 := F0.other W3 (Or.inl ne_a0_b2)
  replace F1 := F1.other W3 (Or.inl ne_a0_b2)
  replace F2 := F2.other W3 (Or.inl ne_a0_b2)
  replace F3 := F3.other W3 (Or.inl ne_a0_b2)
  replace Z0 := Nat.le_trans Z0 (Nat.le_of_eq W3.size.symm)
  replace K0 := K0.wr W3 (Or.inr sz_b2)
  replace N0 := Fr.snoc X3 N0 g_b2
  have V_b2 : Arv Z h3 b2 k2 .long (2 : Int32) [(.long (-1 : Int64)), (.long (0 : Int64))] (.long (0 : Int64)) := Arv.set Ar3 qc3 S3 M3 H3 G3 rfl W3 0 rfl (Nat.le_of_ble_eq_true rfl)
  show own_Go p e below _ (T3.setTop (mkF m 14 #[.val (.ref a0), .val (.int p1), .val (.ref a2), .val (.ref a3)] [(.ref b2), (.ref a0)]))
  refine own_st (fun _ k => XS.dup X3.here hx rfl (hb hby d3_14) rfl rfl k) ?_
  show own_Go p e below _ (T3.setTop (mkF m 15 #[.val (.ref a0), .val (.int p1), .val (.ref a2), .val (.ref a3)] [(.ref b2), (.ref b2), (.ref a0)]))
  refine own_st (fun _ k => XS.iconst X3.here hx rfl (hb hby d3_15) k) ?_
  show own_Go p e below _ (T3.setTop (mkF m 16 #[.val (.ref a0), .val (.int p1), .val (.ref a2), .val (.ref a3)] [(.int (1 : Int32)), (.ref b2), (.ref b2), (.ref a0)]))
  refine own_st (fun _ k => X3.ldc2Long hx hown (mvT hZ (hw _ (List.mem_of_getElem? (i := 18) rfl))) (g := (mkF m 16 #[.val (.ref a0), .val (.int p1), .val (.ref a2), .val (.ref a3)] [(.int (1 : Int32)), (.ref b2), (.ref b2), (.ref a0)])) rfl (hb hby d3_16) _ k) ?_
  show own_Go p e below _ (T3.setTop (mkF m 19 #[.val (.ref a0), .val (.int p1), .val (.ref a2), .val (.ref a3)] [(.long (-1 : Int64)), (.int (1 : Int32)), (.ref b2), (.ref b2), (.ref a0)]))
  obtain ⟨cl4, Ar4, qc4, S4, M4, H4, G4⟩ := V_b2
  obtain ⟨T4, h4, X4, e4, W4, st4⟩ := stJ X3 hx hZ e3 Ar4 (j := (1 : Int32)) (inb_of S4 ⟨by decide, by decide⟩) (g := (mkF m 19 #[.val (.ref a0), .val (.int p1), .val (.ref a2), .val (.ref a3)] [(.long (-1 : Int64)), (.int (1 : Int32)), (.ref b2), (.ref b2), (.ref a0)])) rfl rfl (hb hby d3_19)
  refine own_st st4 ?_
  replace E0 := E0.wr W4
  replace F0 := F0.other W4 (Or.inl ne_a0_b2)
  replace F1 := F1.other W4 (Or.inl ne_a0_b2)
  replace F2 := F2.other W4 (Or.inl ne_a0_b2)
  replace F3 := F3.other W4 (Or.inl ne_a0_b2)
  replace Z0 := Nat.le_trans Z0 (Nat.le_of_eq W4.size.symm)
  replace K0 := K0.wr W4 (Or.inr sz_b2)
  replace N0 := Fr.snoc X4 N0 g_b2
  have V_b2 : Arv Z h4 b2 k2 .long (2 : Int32) [(.long (-1 : Int64)), (.long (-1 : Int64))] (.long (0 : Int64)) := Arv.set Ar4 qc4 S4 M4 H4 G4 rfl W4 1 rfl (Nat.le_of_ble_eq_true rfl)
  show own_Go p e below _ (T4.setTop (mkF m 20 #[.val (.ref a0), .val (.int p1), .val (.ref a2), .val (.ref a3)] [(.ref b2), (.ref a0)]))
  obtain ⟨T5, h5, X5, e5, W5, st5⟩ := putF X4 hx hZ hown (host := "") (Or.inl (hw _ (List.mem_of_getElem? (i := 19) rfl))) Via.refl e4 F0 E0 (Or.inr ⟨(hw _ (List.mem_of_getElem? (i := 20) rfl)), rfl, hnm⟩) (hw _ (List.mem_of_getElem? (i := 9) rfl)) (ty := (.array .long)) (by decide) rfl rfl (g := (mkF m 20 #[.val (.ref a0), .val (.int p1), .val (.ref a2), .val (.ref a3)] [(.ref b2), (.ref a0)])) rfl rfl (hb hby d3_20)
  refine own_st st5 ?_
  replace E0 := E0.wr W5
  replace F1 := F1.other W5 (Or.inr (slot_ne (Or.inr (hw _ (List.mem_of_getElem? (i := 22) rfl))) (Or.inr (hw _ (List.mem_of_getElem? (i := 20) rfl))) (by decide) (t := .int) (t' := (.array .long)) (by decide) (by decide)))
  replace F2 := F2.other W5 (Or.inr (slot_ne (Or.inr (hw _ (List.mem_of_getElem? (i := 24) rfl))) (Or.inr (hw _ (List.mem_of_getElem? (i := 20) rfl))) (by decide) (t := (.array .int)) (t' := (.array .long)) (by decide) (by decide)))
  replace F3 := F3.other W5 (Or.inr (slot_ne (Or.inr (hw _ (List.mem_of_getElem? (i := 26) rfl))) (Or.inr (hw _ (List.mem_of_getElem? (i := 20) rfl))) (by decide) (t := (.array .int)) (t' := (.array .long)) (by decide) (by decide)))
  replace V_b2 := V_b2.other W5 ne_b2_a0
  replace Z0 := Nat.le_trans Z0 (Nat.le_of_eq W5.size.symm)
  replace K0 := K0.wr W5 (Or.inl (by simp))
  replace N0 := Fr.snoc X5 N0 g_a0
  replace F0 := F0.same W5
  show own_Go p e below _ (T5.setTop (mkF m 23 #[.val (.ref a0), .val (.int p1), .val (.ref a2), .val (.ref a3)] []))
  refine own_st (fun _ k => XS.aloadN X5.here hx rfl (hb hby d3_23) rfl rfl k) ?_
  show own_Go p e below _ (T5.setTop (mkF m 24 #[.val (.ref a0), .val (.int p1), .val (.ref a2), .val (.ref a3)] [(.ref a0)]))
  refine own_st (fun _ k => XS.iloadN X5.here hx rfl (hb hby d3_24) rfl k) ?_
  show own_Go p e below _ (T5.setTop (mkF m 25 #[.val (.ref a0), .val (.int p1), .val (.ref a2), .val (.ref a3)] [(.int p1), (.ref a0)]))
  obtain ⟨T6, h6, X6, e6, W6, st6⟩ := putF X5 hx hZ hown (host := "") (Or.inl (hw _ (List.mem_of_getElem? (i := 21) rfl))) Via.refl e5 F1 E0 (Or.inr ⟨(hw _ (List.mem_of_getElem? (i := 22) rfl)), rfl, hnm⟩) (hw _ (List.mem_of_getElem? (i := 9) rfl)) (ty := .int) (by decide) rfl rfl (g := (mkF m 25 #[.val (.ref a0), .val (.int p1), .val (.ref a2), .val (.ref a3)] [(.int p1), (.ref a0)])) rfl rfl (hb hby d3_25)
  refine own_st st6 ?_
  replace E0 := E0.wr W6
  replace F0 := F0.other W6 (Or.inr (slot_ne (Or.inr (hw _ (List.mem_of_getElem? (i := 20) rfl))) (Or.inr (hw _ (List.mem_of_getElem? (i := 22) rfl))) (by decide) (t := (.array .long)) (t' := .int) (by decide) (by decide)))
  replace F2 := F2.other W6 (Or.inr (slot_ne (Or.inr (hw _ (List.mem_of_getElem? (i := 24) rfl))) (Or.inr (hw _ (List.mem_of_getElem? (i := 22) rfl))) (by decide) (t := (.array .int)) (t' := .int) (by decide) (by decide)))
  replace F3 := F3.other W6 (Or.inr (slot_ne (Or.inr (hw _ (List.mem_of_getElem? (i := 26) rfl))) (Or.inr (hw _ (List.mem_of_getElem? (i := 22) rfl))) (by decide) (t := (.array .int)) (t' := .int) (by decide) (by decide)))
  replace V_b2 := V_b2.other W6 ne_b2_a0
  replace Z0 := Nat.le_trans Z0 (Nat.le_of_eq W6.size.symm)
  replace K0 := K0.wr W6 (Or.inl (by simp))
  replace N0 := Fr.snoc X6 N0 g_a0
  replace F1 := F1.same W6
  show own_Go p e below _ (T6.setTop (mkF m 28 #[.val (.ref a0), .val (.int p1), .val (.ref a2), .val (.ref a3)] []))
  refine own_st (fun _ k => XS.aloadN X6.here hx rfl (hb hby d3_28) rfl rfl k) ?_
  show own_Go p e below _ (T6.setTop (mkF m 29 #[.val (.ref a0), .val (.int p1), .val (.ref a2), .val (.ref a3)] [(.ref a0)]))
  refine own_st (fun _ k => XS.aloadN X6.here hx rfl (hb hby d3_29) rfl rfl k) ?_
  show own_Go p e below _ (T6.setTop (mkF m 30 #[.val (.ref a0), .val (.int p1), .val (.ref a2), .val (.ref a3)] [(.ref a2), (.ref a0)]))
  obtain ⟨T7, h7, X7, e7, W7, st7⟩ := putF X6 hx hZ hown (host := "") (Or.inl (hw _ (List.mem_of_getElem? (i := 23) rfl))) Via.refl e6 F2 E0 (Or.inr ⟨(hw _ (List.mem_of_getElem? (i := 24) rfl)), rfl, hnm⟩) (hw _ (List.mem_of_getElem? (i := 9) rfl)) (ty := (.array .int)) (by decide) rfl rfl (g := (mkF m 30 #[.val (.ref a0), .val (.int p1), .val (.ref a2), .val (.ref a3)] [(.ref a2), (.ref a0)])) rfl rfl (hb hby d3_30)
  refine own_st st7 ?_
  replace E0 := E0.wr W7
  replace F0 := F0.other W7 (Or.inr (slot_ne (Or.inr (hw _ (List.mem_of_getElem? (i := 20) rfl))) (Or.inr (hw _ (List.mem_of_getElem? (i := 24) rfl))) (by decide) (t := (.array .long)) (t' := (.array .int)) (by decide) (by decide)))
  replace F1 := F1.other W7 (Or.inr (slot_ne (Or.inr (hw _ (List.mem_of_getElem? (i := 22) rfl))) (Or.inr (hw _ (List.mem_of_getElem? (i := 24) rfl))) (by decide) (t := .int) (t' := (.array .int)) (by decide) (by decide)))
  replace F3 := F3.other W7 (Or.inr (slot_ne (Or.inr (hw _ (List.mem_of_getElem? (i := 26) rfl))) (Or.inr (hw _ (List.mem_of_getElem? (i := 24) rfl))) (by decide) (t := (.array .int)) (t' := (.array .int)) (by decide) (by decide)))
  replace V_b2 := V_b2.other W7 ne_b2_a0
  replace Z0 := Nat.le_trans Z0 (Nat.le_of_eq W7.size.symm)
  replace K0 := K0.wr W7 (Or.inl (by simp))
  replace N0 := Fr.snoc X7 N0 g_a0
  replace F2 := F2.same W7
  show own_Go p e below _ (T7.setTop (mkF m 33 #[.val (.ref a0), .val (.int p1), .val (.ref a2), .val (.ref a3)] []))
  refine own_st (fun _ k => XS.aloadN X7.here hx rfl (hb hby d3_33) rfl rfl k) ?_
  show own_Go p e below _ (T7.setTop (mkF m 34 #[.val (.ref a0), .val (.int p1), .val (.ref a2), .val (.ref a3)] [(.ref a0)]))
  refine own_st (fun _ k => XS.aloadN X7.here hx rfl (hb hby d3_34) rfl rfl k) ?_
  show own_Go p e below _ (T7.setTop (mkF m 35 #[.val (.ref a0), .val (.int p1), .val (.ref a2), .val (.ref a3)] [(.ref a3), (.ref a0)]))
  obtain ⟨T8, h8, X8, e8, W8, st8⟩ := putF X7 hx hZ hown (host := "") (Or.inl (hw _ (List.mem_of_getElem? (i := 25) rfl))) Via.refl e7 F3 E0 (Or.inr ⟨(hw _ (List.mem_of_getElem? (i := 26) rfl)), rfl, hnm⟩) (hw _ (List.mem_of_getElem? (i := 9) rfl)) (ty := (.array .int)) (by decide) rfl rfl (g := (mkF m 35 #[.val (.ref a0), .val (.int p1), .val (.ref a2), .val (.ref a3)] [(.ref a3), (.ref a0)])) rfl rfl (hb hby d3_35)
  refine own_st st8 ?_
  replace E0 := E0.wr W8
  replace F0 := F0.other W8 (Or.inr (slot_ne (Or.inr (hw _ (List.mem_of_getElem? (i := 20) rfl))) (Or.inr (hw _ (List.mem_of_getElem? (i := 26) rfl))) (by decide) (t := (.array .long)) (t' := (.array .int)) (by decide) (by decide)))
  replace F1 := F1.other W8 (Or.inr (slot_ne (Or.inr (hw _ (List.mem_of_getElem? (i := 22) rfl))) (Or.inr (hw _ (List.mem_of_getElem? (i := 26) rfl))) (by decide) (t := .int) (t' := (.array .int)) (by decide) (by decide)))
  replace F2 := F2.other W8 (Or.inr (slot_ne (Or.inr (hw _ (List.mem_of_getElem? (i := 24) rfl))) (Or.inr (hw _ (List.mem_of_getElem? (i := 26) rfl))) (by decide) (t := (.array .int)) (t' := (.array .int)) (by decide) (by decide)))
  replace V_b2 := V_b2.other W8 ne_b2_a0
  replace Z0 := Nat.le_trans Z0 (Nat.le_of_eq W8.size.symm)
  replace K0 := K0.wr W8 (Or.inl (by simp))
  replace N0 := Fr.snoc X8 N0 g_a0
  replace F3 := F3.same W8
  show own_Go p e below _ (T8.setTop (mkF m 38 #[.val (.ref a0), .val (.int p1), .val (.ref a2), .val (.ref a3)] []))
  exact own_retV X8 hx hlk hret (hb hby d3_38) ⟨rfl, N0, by rw [e8]; exact ⟨K0, b2, k2, g_b2, (by first | exact sz_b2 | exact Nat.le_refl _), F0, V_b2, F1, F2, F3⟩⟩ (by decide) (by decide)
def own_n1_33 (p1 : Int32) (lo : Int32) : Int32 := (0 : Int32)
def own_n1_29 (p1 : Int32) (lo : Int32) : Int32 := (1 : Int32)
def own_n1_0 (p1 : Int32) (lo : Int32) : Int32 := (if lo = p1 then (own_n1_29 p1 lo) else (own_n1_33 p1 lo))
theorem d5_0 : decode prog_4_method_5_code 0 = .ok (.aload_n 0, 1) := by decide +kernel
theorem d5_1 : decode prog_4_method_5_code 1 = .ok (.getfield 19, 3) := by decide +kernel
theorem d5_4 : decode prog_4_method_5_code 4 = .ok (.iconst 0, 1) := by decide +kernel
theorem d5_5 : decode prog_4_method_5_code 5 = .ok (.iaload, 1) := by decide +kernel
theorem d5_6 : decode prog_4_method_5_code 6 = .ok (.iload_n 1, 1) := by decide +kernel
theorem d5_7 : decode prog_4_method_5_code 7 = .ok (.if_icmp .eq 22, 3) := by decide +kernel
theorem d5_10 : decode prog_4_method_5_code 10 = .ok (.aload_n 0, 1) := by decide +kernel
theorem d5_11 : decode prog_4_method_5_code 11 = .ok (.getfield 19, 3) := by decide +kernel
theorem d5_14 : decode prog_4_method_5_code 14 = .ok (.arraylength, 1) := by decide +kernel
theorem d5_15 : decode prog_4_method_5_code 15 = .ok (.iconst 2, 1) := by decide +kernel
theorem d5_16 : decode prog_4_method_5_code 16 = .ok (.if_icmp .ne 17, 3) := by decide +kernel
theorem d5_19 : decode prog_4_method_5_code 19 = .ok (.aload_n 0, 1) := by decide +kernel
theorem d5_20 : decode prog_4_method_5_code 20 = .ok (.getfield 19, 3) := by decide +kernel
theorem d5_23 : decode prog_4_method_5_code 23 = .ok (.iconst 1, 1) := by decide +kernel
theorem d5_24 : decode prog_4_method_5_code 24 = .ok (.iaload, 1) := by decide +kernel
theorem d5_25 : decode prog_4_method_5_code 25 = .ok (.iload_n 1, 1) := by decide +kernel
theorem d5_26 : decode prog_4_method_5_code 26 = .ok (.if_icmp .ne 7, 3) := by decide +kernel
theorem d5_29 : decode prog_4_method_5_code 29 = .ok (.iconst 1, 1) := by decide +kernel
theorem d5_30 : decode prog_4_method_5_code 30 = .ok (.goto 4, 3) := by decide +kernel
theorem d5_33 : decode prog_4_method_5_code 33 = .ok (.iconst 0, 1) := by decide +kernel
theorem d5_34 : decode prog_4_method_5_code 34 = .ok (.ireturn, 1) := by decide +kernel
theorem pn_5 : plainFor (⟨"com/example/accordant/accordant/AliveTerms$Group", "narrows", "(I)Z"⟩ : MethodName) = true := plainFor_of_name (by first | (simp [plainName, overriddenIn]; done) | decide +kernel)
theorem ef_5 (m : MethodId) (x0 : Addr) (x1 : Int32) : entryFrame m #[(.ref x0), (.int x1)] 2 = mkF m 0 #[.val (.ref x0), .val (.int x1)] [] := by first | (simp [entryFrame, mkF, argsToLocals, Value.category]; done) | rfl
set_option maxRecDepth 65536 in
set_option maxHeartbeats 40000000 in
theorem rmN1 (l : Launch) (Z : State) (tA : Array Value) (hw : ∀ d ∈ tables_1, d.before tA Z = true) (a0 : Addr) (p1 : Int32) (w1 : Addr) (kc : ClassId) (lo : Int32) (h0 : Heap) (F0 : Fld Z h0 a0 "com/example/accordant/accordant/AliveTerms$Group" "issues" "[I" (.ref w1)) (V0 : Arv Z h0 w1 kc .int (1 : Int32) [(.int lo)] (.int (0 : Int32))) :
    own_Met l Z (⟨"com/example/accordant/accordant/AliveTerms$Group", "narrows", "(I)Z"⟩ : MethodName) prog_4_method_5_code 2 (some .boolean) ({ frames := 0, cells := 0, slots := 0, locals := 0 } : Room) #[(.ref a0), (.int p1)] h0 (own_P (some (.int (own_n1_0 p1 lo))) h0) := by
  refine own_body pn_5 ?_
  intro p e s m below meth c s₁ X0 hx hZ hby hml hown hret hlk hnm e0
  have B33 : ∀ (T0 : State), Stand p l e ({ frames := 0, cells := 0, slots := 0, locals := 0 } : Room) s m #[(.ref a0), (.int p1)] below meth c T0 [] 0 0 → T0.heap = h0 → own_n1_33 p1 lo = own_n1_0 p1 lo → own_Go p e below (own_Post s (own_P (some (.int (own_n1_0 p1 lo))) h0) ({ frames := 0, cells := 0, slots := 0, locals := 0 } : Room).cells ({ frames := 0, cells := 0, slots := 0, locals := 0 } : Room).slots) (T0.setTop (mkF m 33 #[.val (.ref a0), .val (.int p1)] [])) := by
    intro T0 X0 e0 hbk
    show own_Go p e below _ (T0.setTop (mkF m 33 #[.val (.ref a0), .val (.int p1)] []))
    refine own_st (fun _ k => XS.iconst X0.here hx rfl (hb hby d5_33) k) ?_
    show own_Go p e below _ (T0.setTop (mkF m 34 #[.val (.ref a0), .val (.int p1)] [(.int (0 : Int32))]))
    exact own_retZ X0 hx hlk hret rfl (hb hby d5_34) ⟨congrArg (fun z => some (Value.int z)) ((show own_n1_33 p1 lo = (0 : Int32) from rfl).symm.trans hbk), rfl, e0⟩ (by decide) (by decide)
  have B29 : ∀ (T0 : State), Stand p l e ({ frames := 0, cells := 0, slots := 0, locals := 0 } : Room) s m #[(.ref a0), (.int p1)] below meth c T0 [] 0 0 → T0.heap = h0 → own_n1_29 p1 lo = own_n1_0 p1 lo → own_Go p e below (own_Post s (own_P (some (.int (own_n1_0 p1 lo))) h0) ({ frames := 0, cells := 0, slots := 0, locals := 0 } : Room).cells ({ frames := 0, cells := 0, slots := 0, locals := 0 } : Room).slots) (T0.setTop (mkF m 29 #[.val (.ref a0), .val (.int p1)] [])) := by
    intro T0 X0 e0 hbk
    show own_Go p e below _ (T0.setTop (mkF m 29 #[.val (.ref a0), .val (.int p1)] []))
    refine own_st (fun _ k => XS.iconst X0.here hx rfl (hb hby d5_29) k) ?_
    show own_Go p e below _ (T0.setTop (mkF m 30 #[.val (.ref a0), .val (.int p1)] [(.int (1 : Int32))]))
    refine own_st (fun _ k => XS.goto X0.here hx rfl (pc0 := 30) (pc' := 34) rfl (hb hby d5_30) (by decide) (by decide) k) ?_
    show own_Go p e below _ (T0.setTop (mkF m 34 #[.val (.ref a0), .val (.int p1)] [(.int (1 : Int32))]))
    exact own_retZ X0 hx hlk hret rfl (hb hby d5_34) ⟨congrArg (fun z => some (Value.int z)) ((show own_n1_29 p1 lo = (1 : Int32) from rfl).symm.trans hbk), rfl, e0⟩ (by decide) (by decide)
  have B0 : ∀ (T0 : State), Stand p l e ({ frames := 0, cells := 0, slots := 0, locals := 0 } : Room) s m #[(.ref a0), (.int p1)] below meth c T0 [] 0 0 → T0.heap = h0 → own_n1_0 p1 lo = own_n1_0 p1 lo → own_Go p e below (own_Post s (own_P (some (.int (own_n1_0 p1 lo))) h0) ({ frames := 0, cells := 0, slots := 0, locals := 0 } : Room).cells ({ frames := 0, cells := 0, slots := 0, locals := 0 } : Room).slots) (T0.setTop (mkF m 0 #[.val (.ref a0), .val (.int p1)] [])) := by
    intro T0 X0 e0 hbk
    show own_Go p e below _ (T0.setTop (mkF m 0 #[.val (.ref a0), .val (.int p1)] []))
    refine own_st (fun _ k => XS.aloadN X0.here hx rfl (hb hby d5_0) rfl rfl k) ?_
    show own_Go p e below _ (T0.setTop (mkF m 1 #[.val (.ref a0), .val (.int p1)] [(.ref a0)]))
    obtain ⟨T1, X1, e1, st1⟩ := getF X0 hx hZ hown (host := "") (Or.inl (hw _ (List.mem_of_getElem? (i := 23) rfl))) Via.refl e0 F0 (g := (mkF m 1 #[.val (.ref a0), .val (.int p1)] [(.ref a0)])) rfl rfl (hb hby d5_1)
    refine own_st st1 ?_
    show own_Go p e below _ (T1.setTop (mkF m 4 #[.val (.ref a0), .val (.int p1)] [(.ref w1)]))
    refine own_st (fun _ k => XS.iconst X1.here hx rfl (hb hby d5_4) k) ?_
    show own_Go p e below _ (T1.setTop (mkF m 5 #[.val (.ref a0), .val (.int p1)] [(.int (0 : Int32)), (.ref w1)]))
    obtain ⟨cl2, Ar2, hin2, hat2⟩ := own_at V0 (j := (0 : Int32)) ⟨by decide, by decide⟩ (i := 0) rfl (v := (.int lo)) rfl
    refine own_st (fun _ k => X1.iaload hx (j := (0 : Int32)) (v := (.int lo)) (by rw [e1]; exact Ar2.1) (State.isArrayOf_alike hZ.alike Ar2.2.1) Ar2.2.2 hin2 hat2 (g := (mkF m 5 #[.val (.ref a0), .val (.int p1)] [(.int (0 : Int32)), (.ref w1)])) rfl rfl (hb hby d5_5) _ k) ?_
    show own_Go p e below _ (T1.setTop (mkF m 6 #[.val (.ref a0), .val (.int p1)] [(.int lo)]))
    refine own_st (fun _ k => XS.iloadN X1.here hx rfl (hb hby d5_6) rfl k) ?_
    show own_Go p e below _ (T1.setTop (mkF m 7 #[.val (.ref a0), .val (.int p1)] [(.int p1), (.int lo)]))
    by_cases hc7 : lo = p1
    · refine own_st (fun _ k => XS.icmpYes X1.here hx rfl (pc0 := 7) (pc' := 29) rfl (hb hby d5_7) rfl ((own_i2 _ _ _).trans (own_yes (hc7 : lo = p1))) (by decide) (by decide) k) ?_
      show own_Go p e below _ (T1.setTop (mkF m 29 #[.val (.ref a0), .val (.int p1)] []))
      exact B29 T1 X1 e1 ((show own_n1_0 p1 lo = own_n1_29 p1 lo from (if_pos hc7)).symm.trans hbk)
    · refine own_st (fun _ k => XS.icmpNo X1.here hx rfl (hb hby d5_7) rfl ((own_i2 _ _ _).trans (own_no (hc7 : ¬ (lo = p1)))) k) ?_
      show own_Go p e below _ (T1.setTop (mkF m 10 #[.val (.ref a0), .val (.int p1)] []))
      refine own_st (fun _ k => XS.aloadN X1.here hx rfl (hb hby d5_10) rfl rfl k) ?_
      show own_Go p e below _ (T1.setTop (mkF m 11 #[.val (.ref a0), .val (.int p1)] [(.ref a0)]))
      obtain ⟨T3, X3, e3, st3⟩ := getF X1 hx hZ hown (host := "") (Or.inl (hw _ (List.mem_of_getElem? (i := 23) rfl))) Via.refl e1 F0 (g := (mkF m 11 #[.val (.ref a0), .val (.int p1)] [(.ref a0)])) rfl rfl (hb hby d5_11)
      refine own_st st3 ?_
      show own_Go p e below _ (T3.setTop (mkF m 14 #[.val (.ref a0), .val (.int p1)] [(.ref w1)]))
      obtain ⟨cl4, Ar4, S4, M4⟩ := own_len V0
      refine own_st (fun _ k => X3.arraylength hx (by rw [e3]; exact Ar4.1) (State.isArrayOf_alike hZ.alike Ar4.2.1) (g := (mkF m 14 #[.val (.ref a0), .val (.int p1)] [(.ref w1)])) rfl rfl (hb hby d5_14) _ k) ?_
      rw [len_of S4 M4]
      show own_Go p e below _ (T3.setTop (mkF m 15 #[.val (.ref a0), .val (.int p1)] [(.int (1 : Int32))]))
      refine own_st (fun _ k => XS.iconst X3.here hx rfl (hb hby d5_15) k) ?_
      show own_Go p e below _ (T3.setTop (mkF m 16 #[.val (.ref a0), .val (.int p1)] [(.int (2 : Int32)), (.int (1 : Int32))]))
      refine own_st (fun _ k => XS.icmpYes X3.here hx rfl (pc0 := 16) (pc' := 33) rfl (hb hby d5_16) rfl ((own_i2 _ _ _).trans (own_nno ((by decide : ¬ ((1 : Int32) = (2 : Int32))) : ¬ ((1 : Int32) = (2 : Int32))))) (by decide) (by decide) k) ?_
      show own_Go p e below _ (T3.setTop (mkF m 33 #[.val (.ref a0), .val (.int p1)] []))
      exact B33 T3 X3 e3 ((show own_n1_0 p1 lo = own_n1_33 p1 lo from (if_neg hc7)).symm.trans hbk)
  rw [ef_5]
  exact B0 _ X0 e0 rfl
def own_n2_33 (p1 : Int32) (lo : Int32) (hi : Int32) : Int32 := (0 : Int32)
def own_n2_29 (p1 : Int32) (lo : Int32) (hi : Int32) : Int32 := (1 : Int32)
def own_n2_0 (p1 : Int32) (lo : Int32) (hi : Int32) : Int32 := (if lo = p1 then (own_n2_29 p1 lo hi) else (if hi = p1 then (own_n2_29 p1 lo hi) else (own_n2_33 p1 lo hi)))
set_option maxRecDepth 65536 in
set_option maxHeartbeats 40000000 in
theorem rmN2 (l : Launch) (Z : State) (tA : Array Value) (hw : ∀ d ∈ tables_1, d.before tA Z = true) (a0 : Addr) (p1 : Int32) (w1 : Addr) (kc : ClassId) (lo hi : Int32) (h0 : Heap) (F0 : Fld Z h0 a0 "com/example/accordant/accordant/AliveTerms$Group" "issues" "[I" (.ref w1)) (V0 : Arv Z h0 w1 kc .int (2 : Int32) [(.int lo), (.int hi)] (.int (0 : Int32))) :
    own_Met l Z (⟨"com/example/accordant/accordant/AliveTerms$Group", "narrows", "(I)Z"⟩ : MethodName) prog_4_method_5_code 2 (some .boolean) ({ frames := 0, cells := 0, slots := 0, locals := 0 } : Room) #[(.ref a0), (.int p1)] h0 (own_P (some (.int (own_n2_0 p1 lo hi))) h0) := by
  refine own_body pn_5 ?_
  intro p e s m below meth c s₁ X0 hx hZ hby hml hown hret hlk hnm e0
  have B33 : ∀ (T0 : State), Stand p l e ({ frames := 0, cells := 0, slots := 0, locals := 0 } : Room) s m #[(.ref a0), (.int p1)] below meth c T0 [] 0 0 → T0.heap = h0 → own_n2_33 p1 lo hi = own_n2_0 p1 lo hi → own_Go p e below (own_Post s (own_P (some (.int (own_n2_0 p1 lo hi))) h0) ({ frames := 0, cells := 0, slots := 0, locals := 0 } : Room).cells ({ frames := 0, cells := 0, slots := 0, locals := 0 } : Room).slots) (T0.setTop (mkF m 33 #[.val (.ref a0), .val (.int p1)] [])) := by
    intro T0 X0 e0 hbk
    show own_Go p e below _ (T0.setTop (mkF m 33 #[.val (.ref a0), .val (.int p1)] []))
    refine own_st (fun _ k => XS.iconst X0.here hx rfl (hb hby d5_33) k) ?_
    show own_Go p e below _ (T0.setTop (mkF m 34 #[.val (.ref a0), .val (.int p1)] [(.int (0 : Int32))]))
    exact own_retZ X0 hx hlk hret rfl (hb hby d5_34) ⟨congrArg (fun z => some (Value.int z)) ((show own_n2_33 p1 lo hi = (0 : Int32) from rfl).symm.trans hbk), rfl, e0⟩ (by decide) (by decide)
  have B29 : ∀ (T0 : State), Stand p l e ({ frames := 0, cells := 0, slots := 0, locals := 0 } : Room) s m #[(.ref a0), (.int p1)] below meth c T0 [] 0 0 → T0.heap = h0 → own_n2_29 p1 lo hi = own_n2_0 p1 lo hi → own_Go p e below (own_Post s (own_P (some (.int (own_n2_0 p1 lo hi))) h0) ({ frames := 0, cells := 0, slots := 0, locals := 0 } : Room).cells ({ frames := 0, cells := 0, slots := 0, locals := 0 } : Room).slots) (T0.setTop (mkF m 29 #[.val (.ref a0), .val (.int p1)] [])) := by
    intro T0 X0 e0 hbk
    show own_Go p e below _ (T0.setTop (mkF m 29 #[.val (.ref a0), .val (.int p1)] []))
    refine own_st (fun _ k => XS.iconst X0.here hx rfl (hb hby d5_29) k) ?_
    show own_Go p e below _ (T0.setTop (mkF m 30 #[.val (.ref a0), .val (.int p1)] [(.int (1 : Int32))]))
    refine own_st (fun _ k => XS.goto X0.here hx rfl (pc0 := 30) (pc' := 34) rfl (hb hby d5_30) (by decide) (by decide) k) ?_
    show own_Go p e below _ (T0.setTop (mkF m 34 #[.val (.ref a0), .val (.int p1)] [(.int (1 : Int32))]))
    exact own_retZ X0 hx hlk hret rfl (hb hby d5_34) ⟨congrArg (fun z => some (Value.int z)) ((show own_n2_29 p1 lo hi = (1 : Int32) from rfl).symm.trans hbk), rfl, e0⟩ (by decide) (by decide)
  have B0 : ∀ (T0 : State), Stand p l e ({ frames := 0, cells := 0, slots := 0, locals := 0 } : Room) s m #[(.ref a0), (.int p1)] below meth c T0 [] 0 0 → T0.heap = h0 → own_n2_0 p1 lo hi = own_n2_0 p1 lo hi → own_Go p e below (own_Post s (own_P (some (.int (own_n2_0 p1 lo hi))) h0) ({ frames := 0, cells := 0, slots := 0, locals := 0 } : Room).cells ({ frames := 0, cells := 0, slots := 0, locals := 0 } : Room).slots) (T0.setTop (mkF m 0 #[.val (.ref a0), .val (.int p1)] [])) := by
    intro T0 X0 e0 hbk
    show own_Go p e below _ (T0.setTop (mkF m 0 #[.val (.ref a0), .val (.int p1)] []))
    refine own_st (fun _ k => XS.aloadN X0.here hx rfl (hb hby d5_0) rfl rfl k) ?_
    show own_Go p e below _ (T0.setTop (mkF m 1 #[.val (.ref a0), .val (.int p1)] [(.ref a0)]))
    obtain ⟨T1, X1, e1, st1⟩ := getF X0 hx hZ hown (host := "") (Or.inl (hw _ (List.mem_of_getElem? (i := 23) rfl))) Via.refl e0 F0 (g := (mkF m 1 #[.val (.ref a0), .val (.int p1)] [(.ref a0)])) rfl rfl (hb hby d5_1)
    refine own_st st1 ?_
    show own_Go p e below _ (T1.setTop (mkF m 4 #[.val (.ref a0), .val (.int p1)] [(.ref w1)]))
    refine own_st (fun _ k => XS.iconst X1.here hx rfl (hb hby d5_4) k) ?_
    show own_Go p e below _ (T1.setTop (mkF m 5 #[.val (.ref a0), .val (.int p1)] [(.int (0 : Int32)), (.ref w1)]))
    obtain ⟨cl2, Ar2, hin2, hat2⟩ := own_at V0 (j := (0 : Int32)) ⟨by decide, by decide⟩ (i := 0) rfl (v := (.int lo)) rfl
    refine own_st (fun _ k => X1.iaload hx (j := (0 : Int32)) (v := (.int lo)) (by rw [e1]; exact Ar2.1) (State.isArrayOf_alike hZ.alike Ar2.2.1) Ar2.2.2 hin2 hat2 (g := (mkF m 5 #[.val (.ref a0), .val (.int p1)] [(.int (0 : Int32)), (.ref w1)])) rfl rfl (hb hby d5_5) _ k) ?_
    show own_Go p e below _ (T1.setTop (mkF m 6 #[.val (.ref a0), .val (.int p1)] [(.int lo)]))
    refine own_st (fun _ k => XS.iloadN X1.here hx rfl (hb hby d5_6) rfl k) ?_
    show own_Go p e below _ (T1.setTop (mkF m 7 #[.val (.ref a0), .val (.int p1)] [(.int p1), (.int lo)]))
    by_cases hc7 : lo = p1
    · refine own_st (fun _ k => XS.icmpYes X1.here hx rfl (pc0 := 7) (pc' := 29) rfl (hb hby d5_7) rfl ((own_i2 _ _ _).trans (own_yes (hc7 : lo = p1))) (by decide) (by decide) k) ?_
      show own_Go p e below _ (T1.setTop (mkF m 29 #[.val (.ref a0), .val (.int p1)] []))
      exact B29 T1 X1 e1 ((show own_n2_0 p1 lo hi = own_n2_29 p1 lo hi from (if_pos hc7)).symm.trans hbk)
    · refine own_st (fun _ k => XS.icmpNo X1.here hx rfl (hb hby d5_7) rfl ((own_i2 _ _ _).trans (own_no (hc7 : ¬ (lo = p1)))) k) ?_
      show own_Go p e below _ (T1.setTop (mkF m 10 #[.val (.ref a0), .val (.int p1)] []))
      refine own_st (fun _ k => XS.aloadN X1.here hx rfl (hb hby d5_10) rfl rfl k) ?_
      show own_Go p e below _ (T1.setTop (mkF m 11 #[.val (.ref a0), .val (.int p1)] [(.ref a0)]))
      obtain ⟨T3, X3, e3, st3⟩ := getF X1 hx hZ hown (host := "") (Or.inl (hw _ (List.mem_of_getElem? (i := 23) rfl))) Via.refl e1 F0 (g := (mkF m 11 #[.val (.ref a0), .val (.int p1)] [(.ref a0)])) rfl rfl (hb hby d5_11)
      refine own_st st3 ?_
      show own_Go p e below _ (T3.setTop (mkF m 14 #[.val (.ref a0), .val (.int p1)] [(.ref w1)]))
      obtain ⟨cl4, Ar4, S4, M4⟩ := own_len V0
      refine own_st (fun _ k => X3.arraylength hx (by rw [e3]; exact Ar4.1) (State.isArrayOf_alike hZ.alike Ar4.2.1) (g := (mkF m 14 #[.val (.ref a0), .val (.int p1)] [(.ref w1)])) rfl rfl (hb hby d5_14) _ k) ?_
      rw [len_of S4 M4]
      show own_Go p e below _ (T3.setTop (mkF m 15 #[.val (.ref a0), .val (.int p1)] [(.int (2 : Int32))]))
      refine own_st (fun _ k => XS.iconst X3.here hx rfl (hb hby d5_15) k) ?_
      show own_Go p e below _ (T3.setTop (mkF m 16 #[.val (.ref a0), .val (.int p1)] [(.int (2 : Int32)), (.int (2 : Int32))]))
      refine own_st (fun _ k => XS.icmpNo X3.here hx rfl (hb hby d5_16) rfl ((own_i2 _ _ _).trans (own_nyes ((by decide : (2 : Int32) = (2 : Int32)) : (2 : Int32) = (2 : Int32)))) k) ?_
      show own_Go p e below _ (T3.setTop (mkF m 19 #[.val (.ref a0), .val (.int p1)] []))
      refine own_st (fun _ k => XS.aloadN X3.here hx rfl (hb hby d5_19) rfl rfl k) ?_
      show own_Go p e below _ (T3.setTop (mkF m 20 #[.val (.ref a0), .val (.int p1)] [(.ref a0)]))
      obtain ⟨T5, X5, e5, st5⟩ := getF X3 hx hZ hown (host := "") (Or.inl (hw _ (List.mem_of_getElem? (i := 23) rfl))) Via.refl e3 F0 (g := (mkF m 20 #[.val (.ref a0), .val (.int p1)] [(.ref a0)])) rfl rfl (hb hby d5_20)
      refine own_st st5 ?_
      show own_Go p e below _ (T5.setTop (mkF m 23 #[.val (.ref a0), .val (.int p1)] [(.ref w1)]))
      refine own_st (fun _ k => XS.iconst X5.here hx rfl (hb hby d5_23) k) ?_
      show own_Go p e below _ (T5.setTop (mkF m 24 #[.val (.ref a0), .val (.int p1)] [(.int (1 : Int32)), (.ref w1)]))
      obtain ⟨cl6, Ar6, hin6, hat6⟩ := own_at V0 (j := (1 : Int32)) ⟨by decide, by decide⟩ (i := 1) rfl (v := (.int hi)) rfl
      refine own_st (fun _ k => X5.iaload hx (j := (1 : Int32)) (v := (.int hi)) (by rw [e5]; exact Ar6.1) (State.isArrayOf_alike hZ.alike Ar6.2.1) Ar6.2.2 hin6 hat6 (g := (mkF m 24 #[.val (.ref a0), .val (.int p1)] [(.int (1 : Int32)), (.ref w1)])) rfl rfl (hb hby d5_24) _ k) ?_
      show own_Go p e below _ (T5.setTop (mkF m 25 #[.val (.ref a0), .val (.int p1)] [(.int hi)]))
      refine own_st (fun _ k => XS.iloadN X5.here hx rfl (hb hby d5_25) rfl k) ?_
      show own_Go p e below _ (T5.setTop (mkF m 26 #[.val (.ref a0), .val (.int p1)] [(.int p1), (.int hi)]))
      by_cases hc26 : hi = p1
      · refine own_st (fun _ k => XS.icmpNo X5.here hx rfl (hb hby d5_26) rfl ((own_i2 _ _ _).trans (own_nyes (hc26 : hi = p1))) k) ?_
        show own_Go p e below _ (T5.setTop (mkF m 29 #[.val (.ref a0), .val (.int p1)] []))
        exact B29 T5 X5 e5 ((show own_n2_0 p1 lo hi = own_n2_29 p1 lo hi from ((if_neg hc7)).trans ((if_pos hc26))).symm.trans hbk)
      · refine own_st (fun _ k => XS.icmpYes X5.here hx rfl (pc0 := 26) (pc' := 33) rfl (hb hby d5_26) rfl ((own_i2 _ _ _).trans (own_nno (hc26 : ¬ (hi = p1)))) (by decide) (by decide) k) ?_
        show own_Go p e below _ (T5.setTop (mkF m 33 #[.val (.ref a0), .val (.int p1)] []))
        exact B33 T5 X5 e5 ((show own_n2_0 p1 lo hi = own_n2_33 p1 lo hi from ((if_neg hc7)).trans ((if_neg hc26))).symm.trans hbk)
  rw [ef_5]
  exact B0 _ X0 e0 rfl
theorem own_y1 {x lo : Int32} (h : x = lo) : own_n1_0 x lo = 1 := if_pos h.symm
theorem own_z1 {x lo : Int32} (h : ¬ x = lo) : own_n1_0 x lo = 0 := if_neg fun q => h q.symm
theorem own_y2 {x lo hi : Int32} (h : x = lo) : own_n2_0 x lo hi = 1 := if_pos h.symm
theorem own_y3 {x lo hi : Int32} (h0 : ¬ x = lo) (h : x = hi) : own_n2_0 x lo hi = 1 := (if_neg fun q => h0 q.symm).trans (if_pos h.symm)
theorem own_z2 {x lo hi : Int32} (h0 : ¬ x = lo) (h : ¬ x = hi) : own_n2_0 x lo hi = 0 := (if_neg fun q => h0 q.symm).trans (if_neg fun q => h q.symm)
theorem own_ne0 {z : Int32} (h : z = 1) : ¬ z = (0 : Int32) := by rw [h]; decide
theorem pn_0 : plainFor (⟨"com/example/accordant/accordant/GroupNarrowsPinLaw", "law", "(IIIII)Z"⟩ : MethodName) = true := plainFor_of_name (by first | (simp [plainName, overriddenIn]; done) | decide +kernel)
theorem ef_0 (m : MethodId) (x0 : Int32) (x1 : Int32) (x2 : Int32) (x3 : Int32) (x4 : Int32) : entryFrame m #[(.int x0), (.int x1), (.int x2), (.int x3), (.int x4)] maxLocals = mkF m 0 #[.val (.int x0), .val (.int x1), .val (.int x2), .val (.int x3), .val (.int x4), .unset, .unset, .unset, .unset, .unset, .unset, .unset, .unset, .unset, .unset] [] := by first | (simp [entryFrame, mkF, argsToLocals, Value.category, maxLocals]; done) | rfl
set_option maxRecDepth 65536 in
set_option maxHeartbeats 40000000 in
theorem rm0 (l : Launch) (Z : State) (tA : Array Value) (hw : ∀ d ∈ tables_1, d.before tA Z = true) (p0 : Int32) (p1 : Int32) (p2 : Int32) (p3 : Int32) (p4 : Int32) (h0 : Heap) (n0 : Nat) (Z0 : n0 ≤ h0.size) :
    MetFree l x (head1 (Jvm.Cond.code x code maxLocals ret :: tables_1) room_1) (fun a U => a = #[(.int p0), (.int p1), (.int p2), (.int p3), (.int p4)] ∧ Z.Warmed39 U.vm ∧ U.heap = h0) (fun _ _ _ _ _ => True) (fun _ U o U' => own_Post U (fun v _ L => v = some (.int (1 : Int32)) ∧ Fr n0 L) 16 128 o U') := by
  refine own_body pn_0 ?_
  intro p e s m below meth c s₁ X0 hx hZ hby hml hown hret hlk hnm e0
  have N0 := Fr.nil n0
  rw [ef_0]
  show own_Go p e below _ (s₁.setTop (mkF m 0 #[.val (.int p0), .val (.int p1), .val (.int p2), .val (.int p3), .val (.int p4), .unset, .unset, .unset, .unset, .unset, .unset, .unset, .unset, .unset, .unset] []))
  refine own_st (fun _ k => XS.iloadN X0.here hx rfl (hb hby at_0) rfl k) ?_
  show own_Go p e below _ (s₁.setTop (mkF m 1 #[.val (.int p0), .val (.int p1), .val (.int p2), .val (.int p3), .val (.int p4), .unset, .unset, .unset, .unset, .unset, .unset, .unset, .unset, .unset, .unset] [(.int p1)]))
  refine own_st (fun _ k => XS.iloadN X0.here hx rfl (hb hby at_1) rfl k) ?_
  show own_Go p e below _ (s₁.setTop (mkF m 2 #[.val (.int p0), .val (.int p1), .val (.int p2), .val (.int p3), .val (.int p4), .unset, .unset, .unset, .unset, .unset, .unset, .unset, .unset, .unset, .unset] [(.int p2), (.int p1)]))
  obtain ⟨_, T1, _, X1, ⟨rfl, rfl, e1⟩, st1⟩ := own_callS X0 hx hZ (y := (⟨"java/lang/Math", "min", "(II)I"⟩ : MethodName)) (argsL := [(.int p1), (.int p2)]) (rest := []) (W := 0) (g := (mkF m 2 #[.val (.int p0), .val (.int p1), .val (.int p2), .val (.int p3), .val (.int p4), .unset, .unset, .unset, .unset, .unset, .unset, .unset, .unset, .unset, .unset] [(.int p2), (.int p1)])) (rm1 l Z tA hw p1 p2 h0) hown (hw _ (List.mem_of_getElem? (i := 0) rfl)) (hw _ (List.mem_of_getElem? (i := 1) rfl)) (hw _ (List.mem_of_getElem? (i := 2) rfl)) (hw _ (List.mem_of_getElem? (i := 3) rfl)) (by decide) e0 rfl (by rw [hml]; rfl) pd_0 rfl rfl (by show 2 * 0 + _ ≤ _; exact Nat.le_of_eq rfl) (hb hby at_2) (by decide) (by decide) (by decide) (by decide)
  replace X1 := own_flat X1
  refine own_st st1 ?_
  show own_Go p e below _ (T1.setTop (mkF m 5 #[.val (.int p0), .val (.int p1), .val (.int p2), .val (.int p3), .val (.int p4), .unset, .unset, .unset, .unset, .unset, .unset, .unset, .unset, .unset, .unset] [(.int (own_mn_0 p1 p2))]))
  refine own_st (fun _ k => XS.istore X1.here hx rfl (hb hby at_5) rfl (l' := #[.val (.int p0), .val (.int p1), .val (.int p2), .val (.int p3), .val (.int p4), .val (.int (own_mn_0 p1 p2)), .unset, .unset, .unset, .unset, .unset, .unset, .unset, .unset, .unset]) rfl k) ?_
  show own_Go p e below _ (T1.setTop (mkF m 7 #[.val (.int p0), .val (.int p1), .val (.int p2), .val (.int p3), .val (.int p4), .val (.int (own_mn_0 p1 p2)), .unset, .unset, .unset, .unset, .unset, .unset, .unset, .unset, .unset] []))
  generalize own_mn_0 p1 p2 = lo
  show own_Go p e below _ (T1.setTop (mkF m 7 #[.val (.int p0), .val (.int p1), .val (.int p2), .val (.int p3), .val (.int p4), .val (.int lo), .unset, .unset, .unset, .unset, .unset, .unset, .unset, .unset, .unset] []))
  refine own_st (fun _ k => XS.iloadN X1.here hx rfl (hb hby at_7) rfl k) ?_
  show own_Go p e below _ (T1.setTop (mkF m 8 #[.val (.int p0), .val (.int p1), .val (.int p2), .val (.int p3), .val (.int p4), .val (.int lo), .unset, .unset, .unset, .unset, .unset, .unset, .unset, .unset, .unset] [(.int p1)]))
  refine own_st (fun _ k => XS.iloadN X1.here hx rfl (hb hby at_8) rfl k) ?_
  show own_Go p e below _ (T1.setTop (mkF m 9 #[.val (.int p0), .val (.int p1), .val (.int p2), .val (.int p3), .val (.int p4), .val (.int lo), .unset, .unset, .unset, .unset, .unset, .unset, .unset, .unset, .unset] [(.int p2), (.int p1)]))
  obtain ⟨_, T2, _, X2, ⟨rfl, rfl, e2⟩, st2⟩ := own_callS X1 hx hZ (y := (⟨"java/lang/Math", "max", "(II)I"⟩ : MethodName)) (argsL := [(.int p1), (.int p2)]) (rest := []) (W := 0) (g := (mkF m 9 #[.val (.int p0), .val (.int p1), .val (.int p2), .val (.int p3), .val (.int p4), .val (.int lo), .unset, .unset, .unset, .unset, .unset, .unset, .unset, .unset, .unset] [(.int p2), (.int p1)])) (rm2 l Z tA hw p1 p2 h0) hown (hw _ (List.mem_of_getElem? (i := 4) rfl)) (hw _ (List.mem_of_getElem? (i := 5) rfl)) (hw _ (List.mem_of_getElem? (i := 2) rfl)) (hw _ (List.mem_of_getElem? (i := 6) rfl)) (by decide) e1 rfl (by rw [hml]; rfl) pd_0 rfl rfl (by show 2 * 0 + _ ≤ _; exact Nat.le_of_eq rfl) (hb hby at_9) (by decide) (by decide) (by decide) (by decide)
  replace X2 := own_flat X2
  refine own_st st2 ?_
  show own_Go p e below _ (T2.setTop (mkF m 12 #[.val (.int p0), .val (.int p1), .val (.int p2), .val (.int p3), .val (.int p4), .val (.int lo), .unset, .unset, .unset, .unset, .unset, .unset, .unset, .unset, .unset] [(.int (own_mx_0 p1 p2))]))
  refine own_st (fun _ k => XS.istore X2.here hx rfl (hb hby at_12) rfl (l' := #[.val (.int p0), .val (.int p1), .val (.int p2), .val (.int p3), .val (.int p4), .val (.int lo), .val (.int (own_mx_0 p1 p2)), .unset, .unset, .unset, .unset, .unset, .unset, .unset, .unset]) rfl k) ?_
  show own_Go p e below _ (T2.setTop (mkF m 14 #[.val (.int p0), .val (.int p1), .val (.int p2), .val (.int p3), .val (.int p4), .val (.int lo), .val (.int (own_mx_0 p1 p2)), .unset, .unset, .unset, .unset, .unset, .unset, .unset, .unset] []))
  generalize own_mx_0 p1 p2 = hi
  show own_Go p e below _ (T2.setTop (mkF m 14 #[.val (.int p0), .val (.int p1), .val (.int p2), .val (.int p3), .val (.int p4), .val (.int lo), .val (.int hi), .unset, .unset, .unset, .unset, .unset, .unset, .unset, .unset] []))
  refine own_st (fun _ k => XS.iload X2.here hx rfl (hb hby at_14) rfl k) ?_
  show own_Go p e below _ (T2.setTop (mkF m 16 #[.val (.int p0), .val (.int p1), .val (.int p2), .val (.int p3), .val (.int p4), .val (.int lo), .val (.int hi), .unset, .unset, .unset, .unset, .unset, .unset, .unset, .unset] [(.int p4)]))
  refine own_st (fun _ k => XS.iconst X2.here hx rfl (hb hby at_16) k) ?_
  show own_Go p e below _ (T2.setTop (mkF m 17 #[.val (.int p0), .val (.int p1), .val (.int p2), .val (.int p3), .val (.int p4), .val (.int lo), .val (.int hi), .unset, .unset, .unset, .unset, .unset, .unset, .unset, .unset] [(.int (1 : Int32)), (.int p4)]))
  refine own_st (fun _ k => XS.iand X2.here hx rfl (hb hby at_17) rfl k) ?_
  show own_Go p e below _ (T2.setTop (mkF m 18 #[.val (.int p0), .val (.int p1), .val (.int p2), .val (.int p3), .val (.int p4), .val (.int lo), .val (.int hi), .unset, .unset, .unset, .unset, .unset, .unset, .unset, .unset] [(.int (p4 &&& (1 : Int32)))]))
  by_cases hc18 : (p4 &&& (1 : Int32)) = (0 : Int32)
  · refine own_st (fun _ k => XS.ifYes X2.here hx rfl (pc0 := 18) (pc' := 32) rfl (hb hby at_18) rfl ((own_i0 _ _).trans (own_yes (hc18 : (p4 &&& (1 : Int32)) = (0 : Int32)))) (by decide) (by decide) k) ?_
    show own_Go p e below _ (T2.setTop (mkF m 32 #[.val (.int p0), .val (.int p1), .val (.int p2), .val (.int p3), .val (.int p4), .val (.int lo), .val (.int hi), .unset, .unset, .unset, .unset, .unset, .unset, .unset, .unset] []))
    refine own_st (fun _ k => XS.iconst X2.here hx rfl (hb hby at_32) k) ?_
    show own_Go p e below _ (T2.setTop (mkF m 33 #[.val (.int p0), .val (.int p1), .val (.int p2), .val (.int p3), .val (.int p4), .val (.int lo), .val (.int hi), .unset, .unset, .unset, .unset, .unset, .unset, .unset, .unset] [(.int (0 : Int32))]))
    refine own_st (fun _ k => XS.istore X2.here hx rfl (hb hby at_33) rfl (l' := #[.val (.int p0), .val (.int p1), .val (.int p2), .val (.int p3), .val (.int p4), .val (.int lo), .val (.int hi), .val (.int (0 : Int32)), .unset, .unset, .unset, .unset, .unset, .unset, .unset]) rfl k) ?_
    show own_Go p e below _ (T2.setTop (mkF m 35 #[.val (.int p0), .val (.int p1), .val (.int p2), .val (.int p3), .val (.int p4), .val (.int lo), .val (.int hi), .val (.int (0 : Int32)), .unset, .unset, .unset, .unset, .unset, .unset, .unset] []))
    refine own_st (fun _ k => XS.iload X2.here hx rfl (hb hby at_35) rfl k) ?_
    show own_Go p e below _ (T2.setTop (mkF m 37 #[.val (.int p0), .val (.int p1), .val (.int p2), .val (.int p3), .val (.int p4), .val (.int lo), .val (.int hi), .val (.int (0 : Int32)), .unset, .unset, .unset, .unset, .unset, .unset, .unset] [(.int (0 : Int32))]))
    refine own_st (fun _ k => XS.ifYes X2.here hx rfl (pc0 := 37) (pc' := 56) rfl (hb hby at_37) rfl ((own_i0 _ _).trans (own_yes ((by decide : (0 : Int32) = (0 : Int32)) : (0 : Int32) = (0 : Int32)))) (by decide) (by decide) k) ?_
    show own_Go p e below _ (T2.setTop (mkF m 56 #[.val (.int p0), .val (.int p1), .val (.int p2), .val (.int p3), .val (.int p4), .val (.int lo), .val (.int hi), .val (.int (0 : Int32)), .unset, .unset, .unset, .unset, .unset, .unset, .unset] []))
    refine own_st (fun _ k => XS.iconst X2.here hx rfl (hb hby at_56) k) ?_
    show own_Go p e below _ (T2.setTop (mkF m 57 #[.val (.int p0), .val (.int p1), .val (.int p2), .val (.int p3), .val (.int p4), .val (.int lo), .val (.int hi), .val (.int (0 : Int32)), .unset, .unset, .unset, .unset, .unset, .unset, .unset] [(.int (1 : Int32))]))
    obtain ⟨T3, h3, k3, X3, e3, E3, A3, st3⟩ := newP X2 hx hZ (hw _ (List.mem_of_getElem? (i := 7) rfl)) e2 (g := (mkF m 57 #[.val (.int p0), .val (.int p1), .val (.int p2), .val (.int p3), .val (.int p4), .val (.int lo), .val (.int hi), .val (.int (0 : Int32)), .unset, .unset, .unset, .unset, .unset, .unset, .unset] [(.int (1 : Int32))])) rfl (hb hby at_57) rfl (by decide) (cap := 1) (by decide) (by decide) (by decide) (by decide)
    refine own_st st3 ?_
    obtain ⟨b3, g3⟩ : ∃ z, z = h0.size := ⟨_, rfl⟩
    rw [← g3] at A3 ⊢
    have g_b3 : n0 ≤ b3 := Nat.le_trans Z0 (Nat.le_of_eq g3.symm)
    replace Z0 := Nat.le_trans Z0 E3.1
    have V_b3 : Arv Z h3 b3 k3 .int (1 : Int32) [(.int (0 : Int32))] (.int (0 : Int32)) := (Arv.new A3 (by decide)).pad (pad_rep [] (.int (0 : Int32)) 1)
    show own_Go p e below _ (T3.setTop (mkF m 59 #[.val (.int p0), .val (.int p1), .val (.int p2), .val (.int p3), .val (.int p4), .val (.int lo), .val (.int hi), .val (.int (0 : Int32)), .unset, .unset, .unset, .unset, .unset, .unset, .unset] [(.ref b3)]))
    refine own_st (fun _ k => XS.dup X3.here hx rfl (hb hby at_59) rfl rfl k) ?_
    show own_Go p e below _ (T3.setTop (mkF m 60 #[.val (.int p0), .val (.int p1), .val (.int p2), .val (.int p3), .val (.int p4), .val (.int lo), .val (.int hi), .val (.int (0 : Int32)), .unset, .unset, .unset, .unset, .unset, .unset, .unset] [(.ref b3), (.ref b3)]))
    refine own_st (fun _ k => XS.iconst X3.here hx rfl (hb hby at_60) k) ?_
    show own_Go p e below _ (T3.setTop (mkF m 61 #[.val (.int p0), .val (.int p1), .val (.int p2), .val (.int p3), .val (.int p4), .val (.int lo), .val (.int hi), .val (.int (0 : Int32)), .unset, .unset, .unset, .unset, .unset, .unset, .unset] [(.int (0 : Int32)), (.ref b3), (.ref b3)]))
    refine own_st (fun _ k => XS.iload X3.here hx rfl (hb hby at_61) rfl k) ?_
    show own_Go p e below _ (T3.setTop (mkF m 63 #[.val (.int p0), .val (.int p1), .val (.int p2), .val (.int p3), .val (.int p4), .val (.int lo), .val (.int hi), .val (.int (0 : Int32)), .unset, .unset, .unset, .unset, .unset, .unset, .unset] [(.int lo), (.int (0 : Int32)), (.ref b3), (.ref b3)]))
    obtain ⟨cl4, Ar4, qc4, S4, M4, H4, G4⟩ := V_b3
    obtain ⟨T4, h4, X4, e4, W4, st4⟩ := stI X3 hx hZ e3 Ar4 (j := (0 : Int32)) (inb_of S4 ⟨by decide, by decide⟩) (g := (mkF m 63 #[.val (.int p0), .val (.int p1), .val (.int p2), .val (.int p3), .val (.int p4), .val (.int lo), .val (.int hi), .val (.int (0 : Int32)), .unset, .unset, .unset, .unset, .unset, .unset, .unset] [(.int lo), (.int (0 : Int32)), (.ref b3), (.ref b3)])) rfl rfl (hb hby at_63)
    refine own_st st4 ?_
    replace Z0 := Nat.le_trans Z0 (Nat.le_of_eq W4.size.symm)
    replace N0 := Fr.snoc X4 N0 g_b3
    have V_b3 : Arv Z h4 b3 k3 .int (1 : Int32) [(.int lo)] (.int (0 : Int32)) := Arv.set Ar4 qc4 S4 M4 H4 G4 rfl W4 0 rfl (Nat.le_of_ble_eq_true rfl)
    show own_Go p e below _ (T4.setTop (mkF m 64 #[.val (.int p0), .val (.int p1), .val (.int p2), .val (.int p3), .val (.int p4), .val (.int lo), .val (.int hi), .val (.int (0 : Int32)), .unset, .unset, .unset, .unset, .unset, .unset, .unset] [(.ref b3)]))
    refine own_st (fun _ k => XS.astore X4.here hx rfl (hb hby at_64) rfl rfl (l' := #[.val (.int p0), .val (.int p1), .val (.int p2), .val (.int p3), .val (.int p4), .val (.int lo), .val (.int hi), .val (.int (0 : Int32)), .val (.ref b3), .unset, .unset, .unset, .unset, .unset, .unset]) rfl k) ?_
    show own_Go p e below _ (T4.setTop (mkF m 66 #[.val (.int p0), .val (.int p1), .val (.int p2), .val (.int p3), .val (.int p4), .val (.int lo), .val (.int hi), .val (.int (0 : Int32)), .val (.ref b3), .unset, .unset, .unset, .unset, .unset, .unset] []))
    obtain ⟨T5, h5, X5, e5, E5, A5, D5, -, st5⟩ := newO X4 hx hZ hown (hw _ (List.mem_of_getElem? (i := 8) rfl)) (hw _ (List.mem_of_getElem? (i := 9) rfl)) (hw _ (List.mem_of_getElem? (i := 10) rfl)) e4 (g := (mkF m 66 #[.val (.int p0), .val (.int p1), .val (.int p2), .val (.int p3), .val (.int p4), .val (.int lo), .val (.int hi), .val (.int (0 : Int32)), .val (.ref b3), .unset, .unset, .unset, .unset, .unset, .unset] [])) rfl (hb hby at_66) (by decide) (by decide)
    refine own_st st5 ?_
    obtain ⟨b5, g5⟩ : ∃ z, z = h4.size := ⟨_, rfl⟩
    rw [← g5] at A5 D5 ⊢
    have g_b5 : n0 ≤ b5 := Nat.le_trans Z0 (Nat.le_of_eq g5.symm)
    have ne_b3_b5 : b3 ≠ b5 := Nat.ne_of_lt (Nat.lt_of_lt_of_le V_b3.lt (Nat.le_of_eq g5.symm))
    have ne_b5_b3 : b5 ≠ b3 := Ne.symm ne_b3_b5
    replace V_b3 := V_b3.ext E5
    replace Z0 := Nat.le_trans Z0 E5.1
    have F_sums_b5 : Fld Z h5 b5 "com/example/accordant/accordant/AliveTerms$Group" "sums" "[J" .null := D5 (Or.inr (hw _ (List.mem_of_getElem? (i := 20) rfl))) (ty := (.array .long)) (by decide)
    have F_party_b5 : Fld Z h5 b5 "com/example/accordant/accordant/AliveTerms$Group" "party" "I" (.int (0 : Int32)) := D5 (Or.inr (hw _ (List.mem_of_getElem? (i := 22) rfl))) (ty := .int) (by decide)
    have F_issues_b5 : Fld Z h5 b5 "com/example/accordant/accordant/AliveTerms$Group" "issues" "[I" .null := D5 (Or.inr (hw _ (List.mem_of_getElem? (i := 24) rfl))) (ty := (.array .int)) (by decide)
    have F_terms_b5 : Fld Z h5 b5 "com/example/accordant/accordant/AliveTerms$Group" "terms" "[I" .null := D5 (Or.inr (hw _ (List.mem_of_getElem? (i := 26) rfl))) (ty := (.array .int)) (by decide)
    show own_Go p e below _ (T5.setTop (mkF m 69 #[.val (.int p0), .val (.int p1), .val (.int p2), .val (.int p3), .val (.int p4), .val (.int lo), .val (.int hi), .val (.int (0 : Int32)), .val (.ref b3), .unset, .unset, .unset, .unset, .unset, .unset] [(.ref b5)]))
    refine own_st (fun _ k => XS.dup X5.here hx rfl (hb hby at_69) rfl rfl k) ?_
    show own_Go p e below _ (T5.setTop (mkF m 70 #[.val (.int p0), .val (.int p1), .val (.int p2), .val (.int p3), .val (.int p4), .val (.int lo), .val (.int hi), .val (.int (0 : Int32)), .val (.ref b3), .unset, .unset, .unset, .unset, .unset, .unset] [(.ref b5), (.ref b5)]))
    refine own_st (fun _ k => XS.iloadN X5.here hx rfl (hb hby at_70) rfl k) ?_
    show own_Go p e below _ (T5.setTop (mkF m 71 #[.val (.int p0), .val (.int p1), .val (.int p2), .val (.int p3), .val (.int p4), .val (.int lo), .val (.int hi), .val (.int (0 : Int32)), .val (.ref b3), .unset, .unset, .unset, .unset, .unset, .unset] [(.int p0), (.ref b5), (.ref b5)]))
    refine own_st (fun _ k => XS.aload X5.here hx rfl (hb hby at_71) rfl rfl k) ?_
    show own_Go p e below _ (T5.setTop (mkF m 73 #[.val (.int p0), .val (.int p1), .val (.int p2), .val (.int p3), .val (.int p4), .val (.int lo), .val (.int hi), .val (.int (0 : Int32)), .val (.ref b3), .unset, .unset, .unset, .unset, .unset, .unset] [(.ref b3), (.int p0), (.ref b5), (.ref b5)]))
    refine own_st (fun _ k => XS.iconst X5.here hx rfl (hb hby at_73) k) ?_
    show own_Go p e below _ (T5.setTop (mkF m 74 #[.val (.int p0), .val (.int p1), .val (.int p2), .val (.int p3), .val (.int p4), .val (.int lo), .val (.int hi), .val (.int (0 : Int32)), .val (.ref b3), .unset, .unset, .unset, .unset, .unset, .unset] [(.int (1 : Int32)), (.ref b3), (.int p0), (.ref b5), (.ref b5)]))
    obtain ⟨T6, h6, k6, X6, e6, E6, A6, st6⟩ := newP X5 hx hZ (hw _ (List.mem_of_getElem? (i := 7) rfl)) e5 (g := (mkF m 74 #[.val (.int p0), .val (.int p1), .val (.int p2), .val (.int p3), .val (.int p4), .val (.int lo), .val (.int hi), .val (.int (0 : Int32)), .val (.ref b3), .unset, .unset, .unset, .unset, .unset, .unset] [(.int (1 : Int32)), (.ref b3), (.int p0), (.ref b5), (.ref b5)])) rfl (hb hby at_74) rfl (by decide) (cap := 1) (by decide) (by decide) (by decide) (by decide)
    refine own_st st6 ?_
    obtain ⟨b6, g6⟩ : ∃ z, z = h5.size := ⟨_, rfl⟩
    rw [← g6] at A6 ⊢
    have g_b6 : n0 ≤ b6 := Nat.le_trans Z0 (Nat.le_of_eq g6.symm)
    have ne_b3_b6 : b3 ≠ b6 := Nat.ne_of_lt (Nat.lt_of_lt_of_le V_b3.lt (Nat.le_of_eq g6.symm))
    have ne_b6_b3 : b6 ≠ b3 := Ne.symm ne_b3_b6
    have ne_b5_b6 : b5 ≠ b6 := Nat.ne_of_lt (Nat.lt_of_lt_of_le A5.lt (Nat.le_of_eq g6.symm))
    have ne_b6_b5 : b6 ≠ b5 := Ne.symm ne_b5_b6
    replace V_b3 := V_b3.ext E6
    replace A5 := A5.ext E6
    replace F_sums_b5 := F_sums_b5.ext E6
    replace F_party_b5 := F_party_b5.ext E6
    replace F_issues_b5 := F_issues_b5.ext E6
    replace F_terms_b5 := F_terms_b5.ext E6
    replace Z0 := Nat.le_trans Z0 E6.1
    have V_b6 : Arv Z h6 b6 k6 .int (1 : Int32) [(.int (0 : Int32))] (.int (0 : Int32)) := (Arv.new A6 (by decide)).pad (pad_rep [] (.int (0 : Int32)) 1)
    show own_Go p e below _ (T6.setTop (mkF m 76 #[.val (.int p0), .val (.int p1), .val (.int p2), .val (.int p3), .val (.int p4), .val (.int lo), .val (.int hi), .val (.int (0 : Int32)), .val (.ref b3), .unset, .unset, .unset, .unset, .unset, .unset] [(.ref b6), (.ref b3), (.int p0), (.ref b5), (.ref b5)]))
    refine own_st (fun _ k => XS.dup X6.here hx rfl (hb hby at_76) rfl rfl k) ?_
    show own_Go p e below _ (T6.setTop (mkF m 77 #[.val (.int p0), .val (.int p1), .val (.int p2), .val (.int p3), .val (.int p4), .val (.int lo), .val (.int hi), .val (.int (0 : Int32)), .val (.ref b3), .unset, .unset, .unset, .unset, .unset, .unset] [(.ref b6), (.ref b6), (.ref b3), (.int p0), (.ref b5), (.ref b5)]))
    refine own_st (fun _ k => XS.iconst X6.here hx rfl (hb hby at_77) k) ?_
    show own_Go p e below _ (T6.setTop (mkF m 78 #[.val (.int p0), .val (.int p1), .val (.int p2), .val (.int p3), .val (.int p4), .val (.int lo), .val (.int hi), .val (.int (0 : Int32)), .val (.ref b3), .unset, .unset, .unset, .unset, .unset, .unset] [(.int (0 : Int32)), (.ref b6), (.ref b6), (.ref b3), (.int p0), (.ref b5), (.ref b5)]))
    refine own_st (fun _ k => XS.iconst X6.here hx rfl (hb hby at_78) k) ?_
    show own_Go p e below _ (T6.setTop (mkF m 79 #[.val (.int p0), .val (.int p1), .val (.int p2), .val (.int p3), .val (.int p4), .val (.int lo), .val (.int hi), .val (.int (0 : Int32)), .val (.ref b3), .unset, .unset, .unset, .unset, .unset, .unset] [(.int (0 : Int32)), (.int (0 : Int32)), (.ref b6), (.ref b6), (.ref b3), (.int p0), (.ref b5), (.ref b5)]))
    obtain ⟨cl7, Ar7, qc7, S7, M7, H7, G7⟩ := V_b6
    obtain ⟨T7, h7, X7, e7, W7, st7⟩ := stI X6 hx hZ e6 Ar7 (j := (0 : Int32)) (inb_of S7 ⟨by decide, by decide⟩) (g := (mkF m 79 #[.val (.int p0), .val (.int p1), .val (.int p2), .val (.int p3), .val (.int p4), .val (.int lo), .val (.int hi), .val (.int (0 : Int32)), .val (.ref b3), .unset, .unset, .unset, .unset, .unset, .unset] [(.int (0 : Int32)), (.int (0 : Int32)), (.ref b6), (.ref b6), (.ref b3), (.int p0), (.ref b5), (.ref b5)])) rfl rfl (hb hby at_79)
    refine own_st st7 ?_
    replace V_b3 := V_b3.other W7 ne_b3_b6
    replace A5 := A5.wr W7
    replace F_sums_b5 := F_sums_b5.other W7 (Or.inl ne_b5_b6)
    replace F_party_b5 := F_party_b5.other W7 (Or.inl ne_b5_b6)
    replace F_issues_b5 := F_issues_b5.other W7 (Or.inl ne_b5_b6)
    replace F_terms_b5 := F_terms_b5.other W7 (Or.inl ne_b5_b6)
    replace Z0 := Nat.le_trans Z0 (Nat.le_of_eq W7.size.symm)
    replace N0 := Fr.snoc X7 N0 g_b6
    have V_b6 : Arv Z h7 b6 k6 .int (1 : Int32) [(.int (0 : Int32))] (.int (0 : Int32)) := Arv.set Ar7 qc7 S7 M7 H7 G7 rfl W7 0 rfl (Nat.le_of_ble_eq_true rfl)
    show own_Go p e below _ (T7.setTop (mkF m 80 #[.val (.int p0), .val (.int p1), .val (.int p2), .val (.int p3), .val (.int p4), .val (.int lo), .val (.int hi), .val (.int (0 : Int32)), .val (.ref b3), .unset, .unset, .unset, .unset, .unset, .unset] [(.ref b6), (.ref b3), (.int p0), (.ref b5), (.ref b5)]))
    obtain ⟨_, T8, L8, X8, hQ8, st8⟩ := own_callI X7 hx hZ (y := (⟨"com/example/accordant/accordant/AliveTerms$Group", "<init>", "(I[I[I)V"⟩ : MethodName)) (a := b5) (argsL := [(.int p0), (.ref b3), (.ref b6)]) (rest := [(.ref b5)]) (W := 1) (g := (mkF m 80 #[.val (.int p0), .val (.int p1), .val (.int p2), .val (.int p3), .val (.int p4), .val (.int lo), .val (.int hi), .val (.int (0 : Int32)), .val (.ref b3), .unset, .unset, .unset, .unset, .unset, .unset] [(.ref b6), (.ref b3), (.int p0), (.ref b5), (.ref b5)])) (rm3 l Z tA hw b5 p0 b3 b6 h7 n0 Z0 g_b5 A5 F_sums_b5 F_party_b5 F_issues_b5 F_terms_b5) rfl hown (hw _ (List.mem_of_getElem? (i := 11) rfl)) (hw _ (List.mem_of_getElem? (i := 12) rfl)) (hw _ (List.mem_of_getElem? (i := 10) rfl)) (hw _ (List.mem_of_getElem? (i := 13) rfl)) (by decide) e7 rfl (by rw [hml]; rfl) pd_1 rfl rfl (by show 2 * 0 + _ ≤ _; exact Nat.le_of_eq rfl) (hb hby at_80) (by decide) (by decide) (by decide) (by decide)
    obtain ⟨h8, e8⟩ : ∃ z, T8.heap = z := ⟨_, rfl⟩
    rw [e8] at hQ8
    obtain ⟨rfl, Nq8, Kq8, b8s, kb8, g_b8s, ge8, Fq8_0, V_b8s, Fq8_1, Fq8_2, Fq8_3⟩ := hQ8
    have ne_b3_b8s : b3 ≠ b8s := Nat.ne_of_lt (Nat.lt_of_lt_of_le V_b3.lt ge8)
    have ne_b8s_b3 : b8s ≠ b3 := Ne.symm ne_b3_b8s
    have ne_b5_b8s : b5 ≠ b8s := Nat.ne_of_lt (Nat.lt_of_lt_of_le A5.lt ge8)
    have ne_b8s_b5 : b8s ≠ b5 := Ne.symm ne_b5_b8s
    have ne_b6_b8s : b6 ≠ b8s := Nat.ne_of_lt (Nat.lt_of_lt_of_le V_b6.lt ge8)
    have ne_b8s_b6 : b8s ≠ b6 := Ne.symm ne_b6_b8s
    replace V_b3 := V_b3.keep Kq8 (ninS ne_b3_b5 (nin0))
    replace A5 := A5.keep Kq8
    replace V_b6 := V_b6.keep Kq8 (ninS ne_b6_b5 (nin0))
    replace Z0 := Nat.le_trans Z0 Kq8.1
    replace N0 := Fr.app N0 Nq8
    refine own_st st8 ?_
    show own_Go p e below _ (T8.setTop (mkF m 83 #[.val (.int p0), .val (.int p1), .val (.int p2), .val (.int p3), .val (.int p4), .val (.int lo), .val (.int hi), .val (.int (0 : Int32)), .val (.ref b3), .unset, .unset, .unset, .unset, .unset, .unset] [(.ref b5)]))
    refine own_st (fun _ k => XS.astore X8.here hx rfl (hb hby at_83) rfl rfl (l' := #[.val (.int p0), .val (.int p1), .val (.int p2), .val (.int p3), .val (.int p4), .val (.int lo), .val (.int hi), .val (.int (0 : Int32)), .val (.ref b3), .val (.ref b5), .unset, .unset, .unset, .unset, .unset]) rfl k) ?_
    show own_Go p e below _ (T8.setTop (mkF m 85 #[.val (.int p0), .val (.int p1), .val (.int p2), .val (.int p3), .val (.int p4), .val (.int lo), .val (.int hi), .val (.int (0 : Int32)), .val (.ref b3), .val (.ref b5), .unset, .unset, .unset, .unset, .unset] []))
    refine own_st (fun _ k => XS.aload X8.here hx rfl (hb hby at_85) rfl rfl k) ?_
    show own_Go p e below _ (T8.setTop (mkF m 87 #[.val (.int p0), .val (.int p1), .val (.int p2), .val (.int p3), .val (.int p4), .val (.int lo), .val (.int hi), .val (.int (0 : Int32)), .val (.ref b3), .val (.ref b5), .unset, .unset, .unset, .unset, .unset] [(.ref b5)]))
    refine own_st (fun _ k => XS.iload X8.here hx rfl (hb hby at_87) rfl k) ?_
    show own_Go p e below _ (T8.setTop (mkF m 89 #[.val (.int p0), .val (.int p1), .val (.int p2), .val (.int p3), .val (.int p4), .val (.int lo), .val (.int hi), .val (.int (0 : Int32)), .val (.ref b3), .val (.ref b5), .unset, .unset, .unset, .unset, .unset] [(.int lo), (.ref b5)]))
    obtain ⟨_, T9, _, X9, ⟨rfl, rfl, e9⟩, st9⟩ := own_callV X8 hx hZ (y := (⟨"com/example/accordant/accordant/AliveTerms$Group", "narrows", "(I)Z"⟩ : MethodName)) (a := b5) (argsL := [(.int lo)]) (rest := []) (W := 0) (g := (mkF m 89 #[.val (.int p0), .val (.int p1), .val (.int p2), .val (.int p3), .val (.int p4), .val (.int lo), .val (.int hi), .val (.int (0 : Int32)), .val (.ref b3), .val (.ref b5), .unset, .unset, .unset, .unset, .unset] [(.int lo), (.ref b5)])) (rmN1 l Z tA hw b5 lo b3 k3 lo h8 Fq8_2 V_b3) A5 hown (hw _ (List.mem_of_getElem? (i := 27) rfl)) (hw _ (List.mem_of_getElem? (i := 28) rfl)) (hw _ (List.mem_of_getElem? (i := 30) rfl)) (hw _ (List.mem_of_getElem? (i := 29) rfl)) (hw _ (List.mem_of_getElem? (i := 10) rfl)) (hw _ (List.mem_of_getElem? (i := 31) rfl)) (by decide) e8 rfl (by rw [hml]; rfl) pd_3 rfl rfl (by show 2 * 0 + _ ≤ _; exact Nat.le_of_eq rfl) (hb hby at_89) (by decide) (by decide) (by decide) (by decide)
    replace X9 := own_flat X9
    refine own_st st9 ?_
    show own_Go p e below _ (T9.setTop (mkF m 92 #[.val (.int p0), .val (.int p1), .val (.int p2), .val (.int p3), .val (.int p4), .val (.int lo), .val (.int hi), .val (.int (0 : Int32)), .val (.ref b3), .val (.ref b5), .unset, .unset, .unset, .unset, .unset] [(.int (own_n1_0 lo lo))]))
    refine own_st (fun _ k => XS.istore X9.here hx rfl (hb hby at_92) rfl (l' := #[.val (.int p0), .val (.int p1), .val (.int p2), .val (.int p3), .val (.int p4), .val (.int lo), .val (.int hi), .val (.int (0 : Int32)), .val (.ref b3), .val (.ref b5), .val (.int (own_n1_0 lo lo)), .unset, .unset, .unset, .unset]) rfl k) ?_
    show own_Go p e below _ (T9.setTop (mkF m 94 #[.val (.int p0), .val (.int p1), .val (.int p2), .val (.int p3), .val (.int p4), .val (.int lo), .val (.int hi), .val (.int (0 : Int32)), .val (.ref b3), .val (.ref b5), .val (.int (own_n1_0 lo lo)), .unset, .unset, .unset, .unset] []))
    refine own_st (fun _ k => XS.aload X9.here hx rfl (hb hby at_94) rfl rfl k) ?_
    show own_Go p e below _ (T9.setTop (mkF m 96 #[.val (.int p0), .val (.int p1), .val (.int p2), .val (.int p3), .val (.int p4), .val (.int lo), .val (.int hi), .val (.int (0 : Int32)), .val (.ref b3), .val (.ref b5), .val (.int (own_n1_0 lo lo)), .unset, .unset, .unset, .unset] [(.ref b5)]))
    refine own_st (fun _ k => XS.iload X9.here hx rfl (hb hby at_96) rfl k) ?_
    show own_Go p e below _ (T9.setTop (mkF m 98 #[.val (.int p0), .val (.int p1), .val (.int p2), .val (.int p3), .val (.int p4), .val (.int lo), .val (.int hi), .val (.int (0 : Int32)), .val (.ref b3), .val (.ref b5), .val (.int (own_n1_0 lo lo)), .unset, .unset, .unset, .unset] [(.int hi), (.ref b5)]))
    obtain ⟨_, T10, _, X10, ⟨rfl, rfl, e10⟩, st10⟩ := own_callV X9 hx hZ (y := (⟨"com/example/accordant/accordant/AliveTerms$Group", "narrows", "(I)Z"⟩ : MethodName)) (a := b5) (argsL := [(.int hi)]) (rest := []) (W := 0) (g := (mkF m 98 #[.val (.int p0), .val (.int p1), .val (.int p2), .val (.int p3), .val (.int p4), .val (.int lo), .val (.int hi), .val (.int (0 : Int32)), .val (.ref b3), .val (.ref b5), .val (.int (own_n1_0 lo lo)), .unset, .unset, .unset, .unset] [(.int hi), (.ref b5)])) (rmN1 l Z tA hw b5 hi b3 k3 lo h8 Fq8_2 V_b3) A5 hown (hw _ (List.mem_of_getElem? (i := 27) rfl)) (hw _ (List.mem_of_getElem? (i := 28) rfl)) (hw _ (List.mem_of_getElem? (i := 30) rfl)) (hw _ (List.mem_of_getElem? (i := 29) rfl)) (hw _ (List.mem_of_getElem? (i := 10) rfl)) (hw _ (List.mem_of_getElem? (i := 31) rfl)) (by decide) e9 rfl (by rw [hml]; rfl) pd_3 rfl rfl (by show 2 * 0 + _ ≤ _; exact Nat.le_of_eq rfl) (hb hby at_98) (by decide) (by decide) (by decide) (by decide)
    replace X10 := own_flat X10
    refine own_st st10 ?_
    show own_Go p e below _ (T10.setTop (mkF m 101 #[.val (.int p0), .val (.int p1), .val (.int p2), .val (.int p3), .val (.int p4), .val (.int lo), .val (.int hi), .val (.int (0 : Int32)), .val (.ref b3), .val (.ref b5), .val (.int (own_n1_0 lo lo)), .unset, .unset, .unset, .unset] [(.int (own_n1_0 hi lo))]))
    refine own_st (fun _ k => XS.istore X10.here hx rfl (hb hby at_101) rfl (l' := #[.val (.int p0), .val (.int p1), .val (.int p2), .val (.int p3), .val (.int p4), .val (.int lo), .val (.int hi), .val (.int (0 : Int32)), .val (.ref b3), .val (.ref b5), .val (.int (own_n1_0 lo lo)), .val (.int (own_n1_0 hi lo)), .unset, .unset, .unset]) rfl k) ?_
    show own_Go p e below _ (T10.setTop (mkF m 103 #[.val (.int p0), .val (.int p1), .val (.int p2), .val (.int p3), .val (.int p4), .val (.int lo), .val (.int hi), .val (.int (0 : Int32)), .val (.ref b3), .val (.ref b5), .val (.int (own_n1_0 lo lo)), .val (.int (own_n1_0 hi lo)), .unset, .unset, .unset] []))
    refine own_st (fun _ k => XS.aload X10.here hx rfl (hb hby at_103) rfl rfl k) ?_
    show own_Go p e below _ (T10.setTop (mkF m 105 #[.val (.int p0), .val (.int p1), .val (.int p2), .val (.int p3), .val (.int p4), .val (.int lo), .val (.int hi), .val (.int (0 : Int32)), .val (.ref b3), .val (.ref b5), .val (.int (own_n1_0 lo lo)), .val (.int (own_n1_0 hi lo)), .unset, .unset, .unset] [(.ref b5)]))
    refine own_st (fun _ k => XS.iloadN X10.here hx rfl (hb hby at_105) rfl k) ?_
    show own_Go p e below _ (T10.setTop (mkF m 106 #[.val (.int p0), .val (.int p1), .val (.int p2), .val (.int p3), .val (.int p4), .val (.int lo), .val (.int hi), .val (.int (0 : Int32)), .val (.ref b3), .val (.ref b5), .val (.int (own_n1_0 lo lo)), .val (.int (own_n1_0 hi lo)), .unset, .unset, .unset] [(.int p3), (.ref b5)]))
    obtain ⟨_, T11, _, X11, ⟨rfl, rfl, e11⟩, st11⟩ := own_callV X10 hx hZ (y := (⟨"com/example/accordant/accordant/AliveTerms$Group", "narrows", "(I)Z"⟩ : MethodName)) (a := b5) (argsL := [(.int p3)]) (rest := []) (W := 0) (g := (mkF m 106 #[.val (.int p0), .val (.int p1), .val (.int p2), .val (.int p3), .val (.int p4), .val (.int lo), .val (.int hi), .val (.int (0 : Int32)), .val (.ref b3), .val (.ref b5), .val (.int (own_n1_0 lo lo)), .val (.int (own_n1_0 hi lo)), .unset, .unset, .unset] [(.int p3), (.ref b5)])) (rmN1 l Z tA hw b5 p3 b3 k3 lo h8 Fq8_2 V_b3) A5 hown (hw _ (List.mem_of_getElem? (i := 27) rfl)) (hw _ (List.mem_of_getElem? (i := 28) rfl)) (hw _ (List.mem_of_getElem? (i := 30) rfl)) (hw _ (List.mem_of_getElem? (i := 29) rfl)) (hw _ (List.mem_of_getElem? (i := 10) rfl)) (hw _ (List.mem_of_getElem? (i := 31) rfl)) (by decide) e10 rfl (by rw [hml]; rfl) pd_3 rfl rfl (by show 2 * 0 + _ ≤ _; exact Nat.le_of_eq rfl) (hb hby at_106) (by decide) (by decide) (by decide) (by decide)
    replace X11 := own_flat X11
    refine own_st st11 ?_
    show own_Go p e below _ (T11.setTop (mkF m 109 #[.val (.int p0), .val (.int p1), .val (.int p2), .val (.int p3), .val (.int p4), .val (.int lo), .val (.int hi), .val (.int (0 : Int32)), .val (.ref b3), .val (.ref b5), .val (.int (own_n1_0 lo lo)), .val (.int (own_n1_0 hi lo)), .unset, .unset, .unset] [(.int (own_n1_0 p3 lo))]))
    refine own_st (fun _ k => XS.istore X11.here hx rfl (hb hby at_109) rfl (l' := #[.val (.int p0), .val (.int p1), .val (.int p2), .val (.int p3), .val (.int p4), .val (.int lo), .val (.int hi), .val (.int (0 : Int32)), .val (.ref b3), .val (.ref b5), .val (.int (own_n1_0 lo lo)), .val (.int (own_n1_0 hi lo)), .val (.int (own_n1_0 p3 lo)), .unset, .unset]) rfl k) ?_
    show own_Go p e below _ (T11.setTop (mkF m 111 #[.val (.int p0), .val (.int p1), .val (.int p2), .val (.int p3), .val (.int p4), .val (.int lo), .val (.int hi), .val (.int (0 : Int32)), .val (.ref b3), .val (.ref b5), .val (.int (own_n1_0 lo lo)), .val (.int (own_n1_0 hi lo)), .val (.int (own_n1_0 p3 lo)), .unset, .unset] []))
    refine own_st (fun _ k => XS.iload X11.here hx rfl (hb hby at_111) rfl k) ?_
    show own_Go p e below _ (T11.setTop (mkF m 113 #[.val (.int p0), .val (.int p1), .val (.int p2), .val (.int p3), .val (.int p4), .val (.int lo), .val (.int hi), .val (.int (0 : Int32)), .val (.ref b3), .val (.ref b5), .val (.int (own_n1_0 lo lo)), .val (.int (own_n1_0 hi lo)), .val (.int (own_n1_0 p3 lo)), .unset, .unset] [(.int (0 : Int32))]))
    refine own_st (fun _ k => XS.ifNo X11.here hx rfl (hb hby at_113) rfl ((own_i0 _ _).trans (own_nyes ((by decide : (0 : Int32) = (0 : Int32)) : (0 : Int32) = (0 : Int32)))) k) ?_
    show own_Go p e below _ (T11.setTop (mkF m 116 #[.val (.int p0), .val (.int p1), .val (.int p2), .val (.int p3), .val (.int p4), .val (.int lo), .val (.int hi), .val (.int (0 : Int32)), .val (.ref b3), .val (.ref b5), .val (.int (own_n1_0 lo lo)), .val (.int (own_n1_0 hi lo)), .val (.int (own_n1_0 p3 lo)), .unset, .unset] []))
    refine own_st (fun _ k => XS.iload X11.here hx rfl (hb hby at_116) rfl k) ?_
    show own_Go p e below _ (T11.setTop (mkF m 118 #[.val (.int p0), .val (.int p1), .val (.int p2), .val (.int p3), .val (.int p4), .val (.int lo), .val (.int hi), .val (.int (0 : Int32)), .val (.ref b3), .val (.ref b5), .val (.int (own_n1_0 lo lo)), .val (.int (own_n1_0 hi lo)), .val (.int (own_n1_0 p3 lo)), .unset, .unset] [(.int hi)]))
    refine own_st (fun _ k => XS.iload X11.here hx rfl (hb hby at_118) rfl k) ?_
    show own_Go p e below _ (T11.setTop (mkF m 120 #[.val (.int p0), .val (.int p1), .val (.int p2), .val (.int p3), .val (.int p4), .val (.int lo), .val (.int hi), .val (.int (0 : Int32)), .val (.ref b3), .val (.ref b5), .val (.int (own_n1_0 lo lo)), .val (.int (own_n1_0 hi lo)), .val (.int (own_n1_0 p3 lo)), .unset, .unset] [(.int lo), (.int hi)]))
    by_cases hc120 : hi = lo
    · refine own_st (fun _ k => XS.icmpNo X11.here hx rfl (hb hby at_120) rfl ((own_i2 _ _ _).trans (own_nyes (hc120 : hi = lo))) k) ?_
      show own_Go p e below _ (T11.setTop (mkF m 123 #[.val (.int p0), .val (.int p1), .val (.int p2), .val (.int p3), .val (.int p4), .val (.int lo), .val (.int hi), .val (.int (0 : Int32)), .val (.ref b3), .val (.ref b5), .val (.int (own_n1_0 lo lo)), .val (.int (own_n1_0 hi lo)), .val (.int (own_n1_0 p3 lo)), .unset, .unset] []))
      refine own_st (fun _ k => XS.iconst X11.here hx rfl (hb hby at_123) k) ?_
      show own_Go p e below _ (T11.setTop (mkF m 124 #[.val (.int p0), .val (.int p1), .val (.int p2), .val (.int p3), .val (.int p4), .val (.int lo), .val (.int hi), .val (.int (0 : Int32)), .val (.ref b3), .val (.ref b5), .val (.int (own_n1_0 lo lo)), .val (.int (own_n1_0 hi lo)), .val (.int (own_n1_0 p3 lo)), .unset, .unset] [(.int (1 : Int32))]))
      refine own_st (fun _ k => XS.goto X11.here hx rfl (pc0 := 124) (pc' := 128) rfl (hb hby at_124) (by decide) (by decide) k) ?_
      show own_Go p e below _ (T11.setTop (mkF m 128 #[.val (.int p0), .val (.int p1), .val (.int p2), .val (.int p3), .val (.int p4), .val (.int lo), .val (.int hi), .val (.int (0 : Int32)), .val (.ref b3), .val (.ref b5), .val (.int (own_n1_0 lo lo)), .val (.int (own_n1_0 hi lo)), .val (.int (own_n1_0 p3 lo)), .unset, .unset] [(.int (1 : Int32))]))
      refine own_st (fun _ k => XS.istore X11.here hx rfl (hb hby at_128) rfl (l' := #[.val (.int p0), .val (.int p1), .val (.int p2), .val (.int p3), .val (.int p4), .val (.int lo), .val (.int hi), .val (.int (0 : Int32)), .val (.ref b3), .val (.ref b5), .val (.int (own_n1_0 lo lo)), .val (.int (own_n1_0 hi lo)), .val (.int (own_n1_0 p3 lo)), .val (.int (1 : Int32)), .unset]) rfl k) ?_
      show own_Go p e below _ (T11.setTop (mkF m 130 #[.val (.int p0), .val (.int p1), .val (.int p2), .val (.int p3), .val (.int p4), .val (.int lo), .val (.int hi), .val (.int (0 : Int32)), .val (.ref b3), .val (.ref b5), .val (.int (own_n1_0 lo lo)), .val (.int (own_n1_0 hi lo)), .val (.int (own_n1_0 p3 lo)), .val (.int (1 : Int32)), .unset] []))
      refine own_st (fun _ k => XS.iloadN X11.here hx rfl (hb hby at_130) rfl k) ?_
      show own_Go p e below _ (T11.setTop (mkF m 131 #[.val (.int p0), .val (.int p1), .val (.int p2), .val (.int p3), .val (.int p4), .val (.int lo), .val (.int hi), .val (.int (0 : Int32)), .val (.ref b3), .val (.ref b5), .val (.int (own_n1_0 lo lo)), .val (.int (own_n1_0 hi lo)), .val (.int (own_n1_0 p3 lo)), .val (.int (1 : Int32)), .unset] [(.int p3)]))
      refine own_st (fun _ k => XS.iload X11.here hx rfl (hb hby at_131) rfl k) ?_
      show own_Go p e below _ (T11.setTop (mkF m 133 #[.val (.int p0), .val (.int p1), .val (.int p2), .val (.int p3), .val (.int p4), .val (.int lo), .val (.int hi), .val (.int (0 : Int32)), .val (.ref b3), .val (.ref b5), .val (.int (own_n1_0 lo lo)), .val (.int (own_n1_0 hi lo)), .val (.int (own_n1_0 p3 lo)), .val (.int (1 : Int32)), .unset] [(.int lo), (.int p3)]))
      by_cases hc133 : p3 = lo
      · refine own_st (fun _ k => XS.icmpYes X11.here hx rfl (pc0 := 133) (pc' := 147) rfl (hb hby at_133) rfl ((own_i2 _ _ _).trans (own_yes (hc133 : p3 = lo))) (by decide) (by decide) k) ?_
        show own_Go p e below _ (T11.setTop (mkF m 147 #[.val (.int p0), .val (.int p1), .val (.int p2), .val (.int p3), .val (.int p4), .val (.int lo), .val (.int hi), .val (.int (0 : Int32)), .val (.ref b3), .val (.ref b5), .val (.int (own_n1_0 lo lo)), .val (.int (own_n1_0 hi lo)), .val (.int (own_n1_0 p3 lo)), .val (.int (1 : Int32)), .unset] []))
        refine own_st (fun _ k => XS.iconst X11.here hx rfl (hb hby at_147) k) ?_
        show own_Go p e below _ (T11.setTop (mkF m 148 #[.val (.int p0), .val (.int p1), .val (.int p2), .val (.int p3), .val (.int p4), .val (.int lo), .val (.int hi), .val (.int (0 : Int32)), .val (.ref b3), .val (.ref b5), .val (.int (own_n1_0 lo lo)), .val (.int (own_n1_0 hi lo)), .val (.int (own_n1_0 p3 lo)), .val (.int (1 : Int32)), .unset] [(.int (1 : Int32))]))
        refine own_st (fun _ k => XS.goto X11.here hx rfl (pc0 := 148) (pc' := 152) rfl (hb hby at_148) (by decide) (by decide) k) ?_
        show own_Go p e below _ (T11.setTop (mkF m 152 #[.val (.int p0), .val (.int p1), .val (.int p2), .val (.int p3), .val (.int p4), .val (.int lo), .val (.int hi), .val (.int (0 : Int32)), .val (.ref b3), .val (.ref b5), .val (.int (own_n1_0 lo lo)), .val (.int (own_n1_0 hi lo)), .val (.int (own_n1_0 p3 lo)), .val (.int (1 : Int32)), .unset] [(.int (1 : Int32))]))
        refine own_st (fun _ k => XS.istore X11.here hx rfl (hb hby at_152) rfl (l' := #[.val (.int p0), .val (.int p1), .val (.int p2), .val (.int p3), .val (.int p4), .val (.int lo), .val (.int hi), .val (.int (0 : Int32)), .val (.ref b3), .val (.ref b5), .val (.int (own_n1_0 lo lo)), .val (.int (own_n1_0 hi lo)), .val (.int (own_n1_0 p3 lo)), .val (.int (1 : Int32)), .val (.int (1 : Int32))]) rfl k) ?_
        show own_Go p e below _ (T11.setTop (mkF m 154 #[.val (.int p0), .val (.int p1), .val (.int p2), .val (.int p3), .val (.int p4), .val (.int lo), .val (.int hi), .val (.int (0 : Int32)), .val (.ref b3), .val (.ref b5), .val (.int (own_n1_0 lo lo)), .val (.int (own_n1_0 hi lo)), .val (.int (own_n1_0 p3 lo)), .val (.int (1 : Int32)), .val (.int (1 : Int32))] []))
        refine own_st (fun _ k => XS.iload X11.here hx rfl (hb hby at_154) rfl k) ?_
        show own_Go p e below _ (T11.setTop (mkF m 156 #[.val (.int p0), .val (.int p1), .val (.int p2), .val (.int p3), .val (.int p4), .val (.int lo), .val (.int hi), .val (.int (0 : Int32)), .val (.ref b3), .val (.ref b5), .val (.int (own_n1_0 lo lo)), .val (.int (own_n1_0 hi lo)), .val (.int (own_n1_0 p3 lo)), .val (.int (1 : Int32)), .val (.int (1 : Int32))] [(.int (own_n1_0 lo lo))]))
        refine own_st (fun _ k => XS.ifNo X11.here hx rfl (hb hby at_156) rfl ((own_i0 _ _).trans (own_no ((own_ne0 (own_y1 rfl)) : ¬ ((own_n1_0 lo lo) = (0 : Int32))))) k) ?_
        show own_Go p e below _ (T11.setTop (mkF m 159 #[.val (.int p0), .val (.int p1), .val (.int p2), .val (.int p3), .val (.int p4), .val (.int lo), .val (.int hi), .val (.int (0 : Int32)), .val (.ref b3), .val (.ref b5), .val (.int (own_n1_0 lo lo)), .val (.int (own_n1_0 hi lo)), .val (.int (own_n1_0 p3 lo)), .val (.int (1 : Int32)), .val (.int (1 : Int32))] []))
        refine own_st (fun _ k => XS.iload X11.here hx rfl (hb hby at_159) rfl k) ?_
        show own_Go p e below _ (T11.setTop (mkF m 161 #[.val (.int p0), .val (.int p1), .val (.int p2), .val (.int p3), .val (.int p4), .val (.int lo), .val (.int hi), .val (.int (0 : Int32)), .val (.ref b3), .val (.ref b5), .val (.int (own_n1_0 lo lo)), .val (.int (own_n1_0 hi lo)), .val (.int (own_n1_0 p3 lo)), .val (.int (1 : Int32)), .val (.int (1 : Int32))] [(.int (own_n1_0 hi lo))]))
        refine own_st (fun _ k => XS.iload X11.here hx rfl (hb hby at_161) rfl k) ?_
        show own_Go p e below _ (T11.setTop (mkF m 163 #[.val (.int p0), .val (.int p1), .val (.int p2), .val (.int p3), .val (.int p4), .val (.int lo), .val (.int hi), .val (.int (0 : Int32)), .val (.ref b3), .val (.ref b5), .val (.int (own_n1_0 lo lo)), .val (.int (own_n1_0 hi lo)), .val (.int (own_n1_0 p3 lo)), .val (.int (1 : Int32)), .val (.int (1 : Int32))] [(.int (1 : Int32)), (.int (own_n1_0 hi lo))]))
        refine own_st (fun _ k => XS.icmpNo X11.here hx rfl (hb hby at_163) rfl ((own_i2 _ _ _).trans (own_nyes ((own_y1 hc120) : (own_n1_0 hi lo) = (1 : Int32)))) k) ?_
        show own_Go p e below _ (T11.setTop (mkF m 166 #[.val (.int p0), .val (.int p1), .val (.int p2), .val (.int p3), .val (.int p4), .val (.int lo), .val (.int hi), .val (.int (0 : Int32)), .val (.ref b3), .val (.ref b5), .val (.int (own_n1_0 lo lo)), .val (.int (own_n1_0 hi lo)), .val (.int (own_n1_0 p3 lo)), .val (.int (1 : Int32)), .val (.int (1 : Int32))] []))
        refine own_st (fun _ k => XS.iload X11.here hx rfl (hb hby at_166) rfl k) ?_
        show own_Go p e below _ (T11.setTop (mkF m 168 #[.val (.int p0), .val (.int p1), .val (.int p2), .val (.int p3), .val (.int p4), .val (.int lo), .val (.int hi), .val (.int (0 : Int32)), .val (.ref b3), .val (.ref b5), .val (.int (own_n1_0 lo lo)), .val (.int (own_n1_0 hi lo)), .val (.int (own_n1_0 p3 lo)), .val (.int (1 : Int32)), .val (.int (1 : Int32))] [(.int (own_n1_0 p3 lo))]))
        refine own_st (fun _ k => XS.iload X11.here hx rfl (hb hby at_168) rfl k) ?_
        show own_Go p e below _ (T11.setTop (mkF m 170 #[.val (.int p0), .val (.int p1), .val (.int p2), .val (.int p3), .val (.int p4), .val (.int lo), .val (.int hi), .val (.int (0 : Int32)), .val (.ref b3), .val (.ref b5), .val (.int (own_n1_0 lo lo)), .val (.int (own_n1_0 hi lo)), .val (.int (own_n1_0 p3 lo)), .val (.int (1 : Int32)), .val (.int (1 : Int32))] [(.int (1 : Int32)), (.int (own_n1_0 p3 lo))]))
        refine own_st (fun _ k => XS.icmpNo X11.here hx rfl (hb hby at_170) rfl ((own_i2 _ _ _).trans (own_nyes ((own_y1 hc133) : (own_n1_0 p3 lo) = (1 : Int32)))) k) ?_
        show own_Go p e below _ (T11.setTop (mkF m 173 #[.val (.int p0), .val (.int p1), .val (.int p2), .val (.int p3), .val (.int p4), .val (.int lo), .val (.int hi), .val (.int (0 : Int32)), .val (.ref b3), .val (.ref b5), .val (.int (own_n1_0 lo lo)), .val (.int (own_n1_0 hi lo)), .val (.int (own_n1_0 p3 lo)), .val (.int (1 : Int32)), .val (.int (1 : Int32))] []))
        refine own_st (fun _ k => XS.iconst X11.here hx rfl (hb hby at_173) k) ?_
        show own_Go p e below _ (T11.setTop (mkF m 174 #[.val (.int p0), .val (.int p1), .val (.int p2), .val (.int p3), .val (.int p4), .val (.int lo), .val (.int hi), .val (.int (0 : Int32)), .val (.ref b3), .val (.ref b5), .val (.int (own_n1_0 lo lo)), .val (.int (own_n1_0 hi lo)), .val (.int (own_n1_0 p3 lo)), .val (.int (1 : Int32)), .val (.int (1 : Int32))] [(.int (1 : Int32))]))
        refine own_st (fun _ k => XS.goto X11.here hx rfl (pc0 := 174) (pc' := 178) rfl (hb hby at_174) (by decide) (by decide) k) ?_
        show own_Go p e below _ (T11.setTop (mkF m 178 #[.val (.int p0), .val (.int p1), .val (.int p2), .val (.int p3), .val (.int p4), .val (.int lo), .val (.int hi), .val (.int (0 : Int32)), .val (.ref b3), .val (.ref b5), .val (.int (own_n1_0 lo lo)), .val (.int (own_n1_0 hi lo)), .val (.int (own_n1_0 p3 lo)), .val (.int (1 : Int32)), .val (.int (1 : Int32))] [(.int (1 : Int32))]))
        exact own_retZ X11 hx hlk hret rfl (hb hby at_178) ⟨rfl, N0⟩ (by decide) (by decide)
      · refine own_st (fun _ k => XS.icmpNo X11.here hx rfl (hb hby at_133) rfl ((own_i2 _ _ _).trans (own_no (hc133 : ¬ (p3 = lo)))) k) ?_
        show own_Go p e below _ (T11.setTop (mkF m 136 #[.val (.int p0), .val (.int p1), .val (.int p2), .val (.int p3), .val (.int p4), .val (.int lo), .val (.int hi), .val (.int (0 : Int32)), .val (.ref b3), .val (.ref b5), .val (.int (own_n1_0 lo lo)), .val (.int (own_n1_0 hi lo)), .val (.int (own_n1_0 p3 lo)), .val (.int (1 : Int32)), .unset] []))
        refine own_st (fun _ k => XS.iload X11.here hx rfl (hb hby at_136) rfl k) ?_
        show own_Go p e below _ (T11.setTop (mkF m 138 #[.val (.int p0), .val (.int p1), .val (.int p2), .val (.int p3), .val (.int p4), .val (.int lo), .val (.int hi), .val (.int (0 : Int32)), .val (.ref b3), .val (.ref b5), .val (.int (own_n1_0 lo lo)), .val (.int (own_n1_0 hi lo)), .val (.int (own_n1_0 p3 lo)), .val (.int (1 : Int32)), .unset] [(.int (0 : Int32))]))
        refine own_st (fun _ k => XS.ifYes X11.here hx rfl (pc0 := 138) (pc' := 151) rfl (hb hby at_138) rfl ((own_i0 _ _).trans (own_yes ((by decide : (0 : Int32) = (0 : Int32)) : (0 : Int32) = (0 : Int32)))) (by decide) (by decide) k) ?_
        show own_Go p e below _ (T11.setTop (mkF m 151 #[.val (.int p0), .val (.int p1), .val (.int p2), .val (.int p3), .val (.int p4), .val (.int lo), .val (.int hi), .val (.int (0 : Int32)), .val (.ref b3), .val (.ref b5), .val (.int (own_n1_0 lo lo)), .val (.int (own_n1_0 hi lo)), .val (.int (own_n1_0 p3 lo)), .val (.int (1 : Int32)), .unset] []))
        refine own_st (fun _ k => XS.iconst X11.here hx rfl (hb hby at_151) k) ?_
        show own_Go p e below _ (T11.setTop (mkF m 152 #[.val (.int p0), .val (.int p1), .val (.int p2), .val (.int p3), .val (.int p4), .val (.int lo), .val (.int hi), .val (.int (0 : Int32)), .val (.ref b3), .val (.ref b5), .val (.int (own_n1_0 lo lo)), .val (.int (own_n1_0 hi lo)), .val (.int (own_n1_0 p3 lo)), .val (.int (1 : Int32)), .unset] [(.int (0 : Int32))]))
        refine own_st (fun _ k => XS.istore X11.here hx rfl (hb hby at_152) rfl (l' := #[.val (.int p0), .val (.int p1), .val (.int p2), .val (.int p3), .val (.int p4), .val (.int lo), .val (.int hi), .val (.int (0 : Int32)), .val (.ref b3), .val (.ref b5), .val (.int (own_n1_0 lo lo)), .val (.int (own_n1_0 hi lo)), .val (.int (own_n1_0 p3 lo)), .val (.int (1 : Int32)), .val (.int (0 : Int32))]) rfl k) ?_
        show own_Go p e below _ (T11.setTop (mkF m 154 #[.val (.int p0), .val (.int p1), .val (.int p2), .val (.int p3), .val (.int p4), .val (.int lo), .val (.int hi), .val (.int (0 : Int32)), .val (.ref b3), .val (.ref b5), .val (.int (own_n1_0 lo lo)), .val (.int (own_n1_0 hi lo)), .val (.int (own_n1_0 p3 lo)), .val (.int (1 : Int32)), .val (.int (0 : Int32))] []))
        refine own_st (fun _ k => XS.iload X11.here hx rfl (hb hby at_154) rfl k) ?_
        show own_Go p e below _ (T11.setTop (mkF m 156 #[.val (.int p0), .val (.int p1), .val (.int p2), .val (.int p3), .val (.int p4), .val (.int lo), .val (.int hi), .val (.int (0 : Int32)), .val (.ref b3), .val (.ref b5), .val (.int (own_n1_0 lo lo)), .val (.int (own_n1_0 hi lo)), .val (.int (own_n1_0 p3 lo)), .val (.int (1 : Int32)), .val (.int (0 : Int32))] [(.int (own_n1_0 lo lo))]))
        refine own_st (fun _ k => XS.ifNo X11.here hx rfl (hb hby at_156) rfl ((own_i0 _ _).trans (own_no ((own_ne0 (own_y1 rfl)) : ¬ ((own_n1_0 lo lo) = (0 : Int32))))) k) ?_
        show own_Go p e below _ (T11.setTop (mkF m 159 #[.val (.int p0), .val (.int p1), .val (.int p2), .val (.int p3), .val (.int p4), .val (.int lo), .val (.int hi), .val (.int (0 : Int32)), .val (.ref b3), .val (.ref b5), .val (.int (own_n1_0 lo lo)), .val (.int (own_n1_0 hi lo)), .val (.int (own_n1_0 p3 lo)), .val (.int (1 : Int32)), .val (.int (0 : Int32))] []))
        refine own_st (fun _ k => XS.iload X11.here hx rfl (hb hby at_159) rfl k) ?_
        show own_Go p e below _ (T11.setTop (mkF m 161 #[.val (.int p0), .val (.int p1), .val (.int p2), .val (.int p3), .val (.int p4), .val (.int lo), .val (.int hi), .val (.int (0 : Int32)), .val (.ref b3), .val (.ref b5), .val (.int (own_n1_0 lo lo)), .val (.int (own_n1_0 hi lo)), .val (.int (own_n1_0 p3 lo)), .val (.int (1 : Int32)), .val (.int (0 : Int32))] [(.int (own_n1_0 hi lo))]))
        refine own_st (fun _ k => XS.iload X11.here hx rfl (hb hby at_161) rfl k) ?_
        show own_Go p e below _ (T11.setTop (mkF m 163 #[.val (.int p0), .val (.int p1), .val (.int p2), .val (.int p3), .val (.int p4), .val (.int lo), .val (.int hi), .val (.int (0 : Int32)), .val (.ref b3), .val (.ref b5), .val (.int (own_n1_0 lo lo)), .val (.int (own_n1_0 hi lo)), .val (.int (own_n1_0 p3 lo)), .val (.int (1 : Int32)), .val (.int (0 : Int32))] [(.int (1 : Int32)), (.int (own_n1_0 hi lo))]))
        refine own_st (fun _ k => XS.icmpNo X11.here hx rfl (hb hby at_163) rfl ((own_i2 _ _ _).trans (own_nyes ((own_y1 hc120) : (own_n1_0 hi lo) = (1 : Int32)))) k) ?_
        show own_Go p e below _ (T11.setTop (mkF m 166 #[.val (.int p0), .val (.int p1), .val (.int p2), .val (.int p3), .val (.int p4), .val (.int lo), .val (.int hi), .val (.int (0 : Int32)), .val (.ref b3), .val (.ref b5), .val (.int (own_n1_0 lo lo)), .val (.int (own_n1_0 hi lo)), .val (.int (own_n1_0 p3 lo)), .val (.int (1 : Int32)), .val (.int (0 : Int32))] []))
        refine own_st (fun _ k => XS.iload X11.here hx rfl (hb hby at_166) rfl k) ?_
        show own_Go p e below _ (T11.setTop (mkF m 168 #[.val (.int p0), .val (.int p1), .val (.int p2), .val (.int p3), .val (.int p4), .val (.int lo), .val (.int hi), .val (.int (0 : Int32)), .val (.ref b3), .val (.ref b5), .val (.int (own_n1_0 lo lo)), .val (.int (own_n1_0 hi lo)), .val (.int (own_n1_0 p3 lo)), .val (.int (1 : Int32)), .val (.int (0 : Int32))] [(.int (own_n1_0 p3 lo))]))
        refine own_st (fun _ k => XS.iload X11.here hx rfl (hb hby at_168) rfl k) ?_
        show own_Go p e below _ (T11.setTop (mkF m 170 #[.val (.int p0), .val (.int p1), .val (.int p2), .val (.int p3), .val (.int p4), .val (.int lo), .val (.int hi), .val (.int (0 : Int32)), .val (.ref b3), .val (.ref b5), .val (.int (own_n1_0 lo lo)), .val (.int (own_n1_0 hi lo)), .val (.int (own_n1_0 p3 lo)), .val (.int (1 : Int32)), .val (.int (0 : Int32))] [(.int (0 : Int32)), (.int (own_n1_0 p3 lo))]))
        refine own_st (fun _ k => XS.icmpNo X11.here hx rfl (hb hby at_170) rfl ((own_i2 _ _ _).trans (own_nyes ((own_z1 hc133) : (own_n1_0 p3 lo) = (0 : Int32)))) k) ?_
        show own_Go p e below _ (T11.setTop (mkF m 173 #[.val (.int p0), .val (.int p1), .val (.int p2), .val (.int p3), .val (.int p4), .val (.int lo), .val (.int hi), .val (.int (0 : Int32)), .val (.ref b3), .val (.ref b5), .val (.int (own_n1_0 lo lo)), .val (.int (own_n1_0 hi lo)), .val (.int (own_n1_0 p3 lo)), .val (.int (1 : Int32)), .val (.int (0 : Int32))] []))
        refine own_st (fun _ k => XS.iconst X11.here hx rfl (hb hby at_173) k) ?_
        show own_Go p e below _ (T11.setTop (mkF m 174 #[.val (.int p0), .val (.int p1), .val (.int p2), .val (.int p3), .val (.int p4), .val (.int lo), .val (.int hi), .val (.int (0 : Int32)), .val (.ref b3), .val (.ref b5), .val (.int (own_n1_0 lo lo)), .val (.int (own_n1_0 hi lo)), .val (.int (own_n1_0 p3 lo)), .val (.int (1 : Int32)), .val (.int (0 : Int32))] [(.int (1 : Int32))]))
        refine own_st (fun _ k => XS.goto X11.here hx rfl (pc0 := 174) (pc' := 178) rfl (hb hby at_174) (by decide) (by decide) k) ?_
        show own_Go p e below _ (T11.setTop (mkF m 178 #[.val (.int p0), .val (.int p1), .val (.int p2), .val (.int p3), .val (.int p4), .val (.int lo), .val (.int hi), .val (.int (0 : Int32)), .val (.ref b3), .val (.ref b5), .val (.int (own_n1_0 lo lo)), .val (.int (own_n1_0 hi lo)), .val (.int (own_n1_0 p3 lo)), .val (.int (1 : Int32)), .val (.int (0 : Int32))] [(.int (1 : Int32))]))
        exact own_retZ X11 hx hlk hret rfl (hb hby at_178) ⟨rfl, N0⟩ (by decide) (by decide)
    · refine own_st (fun _ k => XS.icmpYes X11.here hx rfl (pc0 := 120) (pc' := 127) rfl (hb hby at_120) rfl ((own_i2 _ _ _).trans (own_nno (hc120 : ¬ (hi = lo)))) (by decide) (by decide) k) ?_
      show own_Go p e below _ (T11.setTop (mkF m 127 #[.val (.int p0), .val (.int p1), .val (.int p2), .val (.int p3), .val (.int p4), .val (.int lo), .val (.int hi), .val (.int (0 : Int32)), .val (.ref b3), .val (.ref b5), .val (.int (own_n1_0 lo lo)), .val (.int (own_n1_0 hi lo)), .val (.int (own_n1_0 p3 lo)), .unset, .unset] []))
      refine own_st (fun _ k => XS.iconst X11.here hx rfl (hb hby at_127) k) ?_
      show own_Go p e below _ (T11.setTop (mkF m 128 #[.val (.int p0), .val (.int p1), .val (.int p2), .val (.int p3), .val (.int p4), .val (.int lo), .val (.int hi), .val (.int (0 : Int32)), .val (.ref b3), .val (.ref b5), .val (.int (own_n1_0 lo lo)), .val (.int (own_n1_0 hi lo)), .val (.int (own_n1_0 p3 lo)), .unset, .unset] [(.int (0 : Int32))]))
      refine own_st (fun _ k => XS.istore X11.here hx rfl (hb hby at_128) rfl (l' := #[.val (.int p0), .val (.int p1), .val (.int p2), .val (.int p3), .val (.int p4), .val (.int lo), .val (.int hi), .val (.int (0 : Int32)), .val (.ref b3), .val (.ref b5), .val (.int (own_n1_0 lo lo)), .val (.int (own_n1_0 hi lo)), .val (.int (own_n1_0 p3 lo)), .val (.int (0 : Int32)), .unset]) rfl k) ?_
      show own_Go p e below _ (T11.setTop (mkF m 130 #[.val (.int p0), .val (.int p1), .val (.int p2), .val (.int p3), .val (.int p4), .val (.int lo), .val (.int hi), .val (.int (0 : Int32)), .val (.ref b3), .val (.ref b5), .val (.int (own_n1_0 lo lo)), .val (.int (own_n1_0 hi lo)), .val (.int (own_n1_0 p3 lo)), .val (.int (0 : Int32)), .unset] []))
      refine own_st (fun _ k => XS.iloadN X11.here hx rfl (hb hby at_130) rfl k) ?_
      show own_Go p e below _ (T11.setTop (mkF m 131 #[.val (.int p0), .val (.int p1), .val (.int p2), .val (.int p3), .val (.int p4), .val (.int lo), .val (.int hi), .val (.int (0 : Int32)), .val (.ref b3), .val (.ref b5), .val (.int (own_n1_0 lo lo)), .val (.int (own_n1_0 hi lo)), .val (.int (own_n1_0 p3 lo)), .val (.int (0 : Int32)), .unset] [(.int p3)]))
      refine own_st (fun _ k => XS.iload X11.here hx rfl (hb hby at_131) rfl k) ?_
      show own_Go p e below _ (T11.setTop (mkF m 133 #[.val (.int p0), .val (.int p1), .val (.int p2), .val (.int p3), .val (.int p4), .val (.int lo), .val (.int hi), .val (.int (0 : Int32)), .val (.ref b3), .val (.ref b5), .val (.int (own_n1_0 lo lo)), .val (.int (own_n1_0 hi lo)), .val (.int (own_n1_0 p3 lo)), .val (.int (0 : Int32)), .unset] [(.int lo), (.int p3)]))
      by_cases hc133 : p3 = lo
      · refine own_st (fun _ k => XS.icmpYes X11.here hx rfl (pc0 := 133) (pc' := 147) rfl (hb hby at_133) rfl ((own_i2 _ _ _).trans (own_yes (hc133 : p3 = lo))) (by decide) (by decide) k) ?_
        show own_Go p e below _ (T11.setTop (mkF m 147 #[.val (.int p0), .val (.int p1), .val (.int p2), .val (.int p3), .val (.int p4), .val (.int lo), .val (.int hi), .val (.int (0 : Int32)), .val (.ref b3), .val (.ref b5), .val (.int (own_n1_0 lo lo)), .val (.int (own_n1_0 hi lo)), .val (.int (own_n1_0 p3 lo)), .val (.int (0 : Int32)), .unset] []))
        refine own_st (fun _ k => XS.iconst X11.here hx rfl (hb hby at_147) k) ?_
        show own_Go p e below _ (T11.setTop (mkF m 148 #[.val (.int p0), .val (.int p1), .val (.int p2), .val (.int p3), .val (.int p4), .val (.int lo), .val (.int hi), .val (.int (0 : Int32)), .val (.ref b3), .val (.ref b5), .val (.int (own_n1_0 lo lo)), .val (.int (own_n1_0 hi lo)), .val (.int (own_n1_0 p3 lo)), .val (.int (0 : Int32)), .unset] [(.int (1 : Int32))]))
        refine own_st (fun _ k => XS.goto X11.here hx rfl (pc0 := 148) (pc' := 152) rfl (hb hby at_148) (by decide) (by decide) k) ?_
        show own_Go p e below _ (T11.setTop (mkF m 152 #[.val (.int p0), .val (.int p1), .val (.int p2), .val (.int p3), .val (.int p4), .val (.int lo), .val (.int hi), .val (.int (0 : Int32)), .val (.ref b3), .val (.ref b5), .val (.int (own_n1_0 lo lo)), .val (.int (own_n1_0 hi lo)), .val (.int (own_n1_0 p3 lo)), .val (.int (0 : Int32)), .unset] [(.int (1 : Int32))]))
        refine own_st (fun _ k => XS.istore X11.here hx rfl (hb hby at_152) rfl (l' := #[.val (.int p0), .val (.int p1), .val (.int p2), .val (.int p3), .val (.int p4), .val (.int lo), .val (.int hi), .val (.int (0 : Int32)), .val (.ref b3), .val (.ref b5), .val (.int (own_n1_0 lo lo)), .val (.int (own_n1_0 hi lo)), .val (.int (own_n1_0 p3 lo)), .val (.int (0 : Int32)), .val (.int (1 : Int32))]) rfl k) ?_
        show own_Go p e below _ (T11.setTop (mkF m 154 #[.val (.int p0), .val (.int p1), .val (.int p2), .val (.int p3), .val (.int p4), .val (.int lo), .val (.int hi), .val (.int (0 : Int32)), .val (.ref b3), .val (.ref b5), .val (.int (own_n1_0 lo lo)), .val (.int (own_n1_0 hi lo)), .val (.int (own_n1_0 p3 lo)), .val (.int (0 : Int32)), .val (.int (1 : Int32))] []))
        refine own_st (fun _ k => XS.iload X11.here hx rfl (hb hby at_154) rfl k) ?_
        show own_Go p e below _ (T11.setTop (mkF m 156 #[.val (.int p0), .val (.int p1), .val (.int p2), .val (.int p3), .val (.int p4), .val (.int lo), .val (.int hi), .val (.int (0 : Int32)), .val (.ref b3), .val (.ref b5), .val (.int (own_n1_0 lo lo)), .val (.int (own_n1_0 hi lo)), .val (.int (own_n1_0 p3 lo)), .val (.int (0 : Int32)), .val (.int (1 : Int32))] [(.int (own_n1_0 lo lo))]))
        refine own_st (fun _ k => XS.ifNo X11.here hx rfl (hb hby at_156) rfl ((own_i0 _ _).trans (own_no ((own_ne0 (own_y1 rfl)) : ¬ ((own_n1_0 lo lo) = (0 : Int32))))) k) ?_
        show own_Go p e below _ (T11.setTop (mkF m 159 #[.val (.int p0), .val (.int p1), .val (.int p2), .val (.int p3), .val (.int p4), .val (.int lo), .val (.int hi), .val (.int (0 : Int32)), .val (.ref b3), .val (.ref b5), .val (.int (own_n1_0 lo lo)), .val (.int (own_n1_0 hi lo)), .val (.int (own_n1_0 p3 lo)), .val (.int (0 : Int32)), .val (.int (1 : Int32))] []))
        refine own_st (fun _ k => XS.iload X11.here hx rfl (hb hby at_159) rfl k) ?_
        show own_Go p e below _ (T11.setTop (mkF m 161 #[.val (.int p0), .val (.int p1), .val (.int p2), .val (.int p3), .val (.int p4), .val (.int lo), .val (.int hi), .val (.int (0 : Int32)), .val (.ref b3), .val (.ref b5), .val (.int (own_n1_0 lo lo)), .val (.int (own_n1_0 hi lo)), .val (.int (own_n1_0 p3 lo)), .val (.int (0 : Int32)), .val (.int (1 : Int32))] [(.int (own_n1_0 hi lo))]))
        refine own_st (fun _ k => XS.iload X11.here hx rfl (hb hby at_161) rfl k) ?_
        show own_Go p e below _ (T11.setTop (mkF m 163 #[.val (.int p0), .val (.int p1), .val (.int p2), .val (.int p3), .val (.int p4), .val (.int lo), .val (.int hi), .val (.int (0 : Int32)), .val (.ref b3), .val (.ref b5), .val (.int (own_n1_0 lo lo)), .val (.int (own_n1_0 hi lo)), .val (.int (own_n1_0 p3 lo)), .val (.int (0 : Int32)), .val (.int (1 : Int32))] [(.int (0 : Int32)), (.int (own_n1_0 hi lo))]))
        refine own_st (fun _ k => XS.icmpNo X11.here hx rfl (hb hby at_163) rfl ((own_i2 _ _ _).trans (own_nyes ((own_z1 hc120) : (own_n1_0 hi lo) = (0 : Int32)))) k) ?_
        show own_Go p e below _ (T11.setTop (mkF m 166 #[.val (.int p0), .val (.int p1), .val (.int p2), .val (.int p3), .val (.int p4), .val (.int lo), .val (.int hi), .val (.int (0 : Int32)), .val (.ref b3), .val (.ref b5), .val (.int (own_n1_0 lo lo)), .val (.int (own_n1_0 hi lo)), .val (.int (own_n1_0 p3 lo)), .val (.int (0 : Int32)), .val (.int (1 : Int32))] []))
        refine own_st (fun _ k => XS.iload X11.here hx rfl (hb hby at_166) rfl k) ?_
        show own_Go p e below _ (T11.setTop (mkF m 168 #[.val (.int p0), .val (.int p1), .val (.int p2), .val (.int p3), .val (.int p4), .val (.int lo), .val (.int hi), .val (.int (0 : Int32)), .val (.ref b3), .val (.ref b5), .val (.int (own_n1_0 lo lo)), .val (.int (own_n1_0 hi lo)), .val (.int (own_n1_0 p3 lo)), .val (.int (0 : Int32)), .val (.int (1 : Int32))] [(.int (own_n1_0 p3 lo))]))
        refine own_st (fun _ k => XS.iload X11.here hx rfl (hb hby at_168) rfl k) ?_
        show own_Go p e below _ (T11.setTop (mkF m 170 #[.val (.int p0), .val (.int p1), .val (.int p2), .val (.int p3), .val (.int p4), .val (.int lo), .val (.int hi), .val (.int (0 : Int32)), .val (.ref b3), .val (.ref b5), .val (.int (own_n1_0 lo lo)), .val (.int (own_n1_0 hi lo)), .val (.int (own_n1_0 p3 lo)), .val (.int (0 : Int32)), .val (.int (1 : Int32))] [(.int (1 : Int32)), (.int (own_n1_0 p3 lo))]))
        refine own_st (fun _ k => XS.icmpNo X11.here hx rfl (hb hby at_170) rfl ((own_i2 _ _ _).trans (own_nyes ((own_y1 hc133) : (own_n1_0 p3 lo) = (1 : Int32)))) k) ?_
        show own_Go p e below _ (T11.setTop (mkF m 173 #[.val (.int p0), .val (.int p1), .val (.int p2), .val (.int p3), .val (.int p4), .val (.int lo), .val (.int hi), .val (.int (0 : Int32)), .val (.ref b3), .val (.ref b5), .val (.int (own_n1_0 lo lo)), .val (.int (own_n1_0 hi lo)), .val (.int (own_n1_0 p3 lo)), .val (.int (0 : Int32)), .val (.int (1 : Int32))] []))
        refine own_st (fun _ k => XS.iconst X11.here hx rfl (hb hby at_173) k) ?_
        show own_Go p e below _ (T11.setTop (mkF m 174 #[.val (.int p0), .val (.int p1), .val (.int p2), .val (.int p3), .val (.int p4), .val (.int lo), .val (.int hi), .val (.int (0 : Int32)), .val (.ref b3), .val (.ref b5), .val (.int (own_n1_0 lo lo)), .val (.int (own_n1_0 hi lo)), .val (.int (own_n1_0 p3 lo)), .val (.int (0 : Int32)), .val (.int (1 : Int32))] [(.int (1 : Int32))]))
        refine own_st (fun _ k => XS.goto X11.here hx rfl (pc0 := 174) (pc' := 178) rfl (hb hby at_174) (by decide) (by decide) k) ?_
        show own_Go p e below _ (T11.setTop (mkF m 178 #[.val (.int p0), .val (.int p1), .val (.int p2), .val (.int p3), .val (.int p4), .val (.int lo), .val (.int hi), .val (.int (0 : Int32)), .val (.ref b3), .val (.ref b5), .val (.int (own_n1_0 lo lo)), .val (.int (own_n1_0 hi lo)), .val (.int (own_n1_0 p3 lo)), .val (.int (0 : Int32)), .val (.int (1 : Int32))] [(.int (1 : Int32))]))
        exact own_retZ X11 hx hlk hret rfl (hb hby at_178) ⟨rfl, N0⟩ (by decide) (by decide)
      · refine own_st (fun _ k => XS.icmpNo X11.here hx rfl (hb hby at_133) rfl ((own_i2 _ _ _).trans (own_no (hc133 : ¬ (p3 = lo)))) k) ?_
        show own_Go p e below _ (T11.setTop (mkF m 136 #[.val (.int p0), .val (.int p1), .val (.int p2), .val (.int p3), .val (.int p4), .val (.int lo), .val (.int hi), .val (.int (0 : Int32)), .val (.ref b3), .val (.ref b5), .val (.int (own_n1_0 lo lo)), .val (.int (own_n1_0 hi lo)), .val (.int (own_n1_0 p3 lo)), .val (.int (0 : Int32)), .unset] []))
        refine own_st (fun _ k => XS.iload X11.here hx rfl (hb hby at_136) rfl k) ?_
        show own_Go p e below _ (T11.setTop (mkF m 138 #[.val (.int p0), .val (.int p1), .val (.int p2), .val (.int p3), .val (.int p4), .val (.int lo), .val (.int hi), .val (.int (0 : Int32)), .val (.ref b3), .val (.ref b5), .val (.int (own_n1_0 lo lo)), .val (.int (own_n1_0 hi lo)), .val (.int (own_n1_0 p3 lo)), .val (.int (0 : Int32)), .unset] [(.int (0 : Int32))]))
        refine own_st (fun _ k => XS.ifYes X11.here hx rfl (pc0 := 138) (pc' := 151) rfl (hb hby at_138) rfl ((own_i0 _ _).trans (own_yes ((by decide : (0 : Int32) = (0 : Int32)) : (0 : Int32) = (0 : Int32)))) (by decide) (by decide) k) ?_
        show own_Go p e below _ (T11.setTop (mkF m 151 #[.val (.int p0), .val (.int p1), .val (.int p2), .val (.int p3), .val (.int p4), .val (.int lo), .val (.int hi), .val (.int (0 : Int32)), .val (.ref b3), .val (.ref b5), .val (.int (own_n1_0 lo lo)), .val (.int (own_n1_0 hi lo)), .val (.int (own_n1_0 p3 lo)), .val (.int (0 : Int32)), .unset] []))
        refine own_st (fun _ k => XS.iconst X11.here hx rfl (hb hby at_151) k) ?_
        show own_Go p e below _ (T11.setTop (mkF m 152 #[.val (.int p0), .val (.int p1), .val (.int p2), .val (.int p3), .val (.int p4), .val (.int lo), .val (.int hi), .val (.int (0 : Int32)), .val (.ref b3), .val (.ref b5), .val (.int (own_n1_0 lo lo)), .val (.int (own_n1_0 hi lo)), .val (.int (own_n1_0 p3 lo)), .val (.int (0 : Int32)), .unset] [(.int (0 : Int32))]))
        refine own_st (fun _ k => XS.istore X11.here hx rfl (hb hby at_152) rfl (l' := #[.val (.int p0), .val (.int p1), .val (.int p2), .val (.int p3), .val (.int p4), .val (.int lo), .val (.int hi), .val (.int (0 : Int32)), .val (.ref b3), .val (.ref b5), .val (.int (own_n1_0 lo lo)), .val (.int (own_n1_0 hi lo)), .val (.int (own_n1_0 p3 lo)), .val (.int (0 : Int32)), .val (.int (0 : Int32))]) rfl k) ?_
        show own_Go p e below _ (T11.setTop (mkF m 154 #[.val (.int p0), .val (.int p1), .val (.int p2), .val (.int p3), .val (.int p4), .val (.int lo), .val (.int hi), .val (.int (0 : Int32)), .val (.ref b3), .val (.ref b5), .val (.int (own_n1_0 lo lo)), .val (.int (own_n1_0 hi lo)), .val (.int (own_n1_0 p3 lo)), .val (.int (0 : Int32)), .val (.int (0 : Int32))] []))
        refine own_st (fun _ k => XS.iload X11.here hx rfl (hb hby at_154) rfl k) ?_
        show own_Go p e below _ (T11.setTop (mkF m 156 #[.val (.int p0), .val (.int p1), .val (.int p2), .val (.int p3), .val (.int p4), .val (.int lo), .val (.int hi), .val (.int (0 : Int32)), .val (.ref b3), .val (.ref b5), .val (.int (own_n1_0 lo lo)), .val (.int (own_n1_0 hi lo)), .val (.int (own_n1_0 p3 lo)), .val (.int (0 : Int32)), .val (.int (0 : Int32))] [(.int (own_n1_0 lo lo))]))
        refine own_st (fun _ k => XS.ifNo X11.here hx rfl (hb hby at_156) rfl ((own_i0 _ _).trans (own_no ((own_ne0 (own_y1 rfl)) : ¬ ((own_n1_0 lo lo) = (0 : Int32))))) k) ?_
        show own_Go p e below _ (T11.setTop (mkF m 159 #[.val (.int p0), .val (.int p1), .val (.int p2), .val (.int p3), .val (.int p4), .val (.int lo), .val (.int hi), .val (.int (0 : Int32)), .val (.ref b3), .val (.ref b5), .val (.int (own_n1_0 lo lo)), .val (.int (own_n1_0 hi lo)), .val (.int (own_n1_0 p3 lo)), .val (.int (0 : Int32)), .val (.int (0 : Int32))] []))
        refine own_st (fun _ k => XS.iload X11.here hx rfl (hb hby at_159) rfl k) ?_
        show own_Go p e below _ (T11.setTop (mkF m 161 #[.val (.int p0), .val (.int p1), .val (.int p2), .val (.int p3), .val (.int p4), .val (.int lo), .val (.int hi), .val (.int (0 : Int32)), .val (.ref b3), .val (.ref b5), .val (.int (own_n1_0 lo lo)), .val (.int (own_n1_0 hi lo)), .val (.int (own_n1_0 p3 lo)), .val (.int (0 : Int32)), .val (.int (0 : Int32))] [(.int (own_n1_0 hi lo))]))
        refine own_st (fun _ k => XS.iload X11.here hx rfl (hb hby at_161) rfl k) ?_
        show own_Go p e below _ (T11.setTop (mkF m 163 #[.val (.int p0), .val (.int p1), .val (.int p2), .val (.int p3), .val (.int p4), .val (.int lo), .val (.int hi), .val (.int (0 : Int32)), .val (.ref b3), .val (.ref b5), .val (.int (own_n1_0 lo lo)), .val (.int (own_n1_0 hi lo)), .val (.int (own_n1_0 p3 lo)), .val (.int (0 : Int32)), .val (.int (0 : Int32))] [(.int (0 : Int32)), (.int (own_n1_0 hi lo))]))
        refine own_st (fun _ k => XS.icmpNo X11.here hx rfl (hb hby at_163) rfl ((own_i2 _ _ _).trans (own_nyes ((own_z1 hc120) : (own_n1_0 hi lo) = (0 : Int32)))) k) ?_
        show own_Go p e below _ (T11.setTop (mkF m 166 #[.val (.int p0), .val (.int p1), .val (.int p2), .val (.int p3), .val (.int p4), .val (.int lo), .val (.int hi), .val (.int (0 : Int32)), .val (.ref b3), .val (.ref b5), .val (.int (own_n1_0 lo lo)), .val (.int (own_n1_0 hi lo)), .val (.int (own_n1_0 p3 lo)), .val (.int (0 : Int32)), .val (.int (0 : Int32))] []))
        refine own_st (fun _ k => XS.iload X11.here hx rfl (hb hby at_166) rfl k) ?_
        show own_Go p e below _ (T11.setTop (mkF m 168 #[.val (.int p0), .val (.int p1), .val (.int p2), .val (.int p3), .val (.int p4), .val (.int lo), .val (.int hi), .val (.int (0 : Int32)), .val (.ref b3), .val (.ref b5), .val (.int (own_n1_0 lo lo)), .val (.int (own_n1_0 hi lo)), .val (.int (own_n1_0 p3 lo)), .val (.int (0 : Int32)), .val (.int (0 : Int32))] [(.int (own_n1_0 p3 lo))]))
        refine own_st (fun _ k => XS.iload X11.here hx rfl (hb hby at_168) rfl k) ?_
        show own_Go p e below _ (T11.setTop (mkF m 170 #[.val (.int p0), .val (.int p1), .val (.int p2), .val (.int p3), .val (.int p4), .val (.int lo), .val (.int hi), .val (.int (0 : Int32)), .val (.ref b3), .val (.ref b5), .val (.int (own_n1_0 lo lo)), .val (.int (own_n1_0 hi lo)), .val (.int (own_n1_0 p3 lo)), .val (.int (0 : Int32)), .val (.int (0 : Int32))] [(.int (0 : Int32)), (.int (own_n1_0 p3 lo))]))
        refine own_st (fun _ k => XS.icmpNo X11.here hx rfl (hb hby at_170) rfl ((own_i2 _ _ _).trans (own_nyes ((own_z1 hc133) : (own_n1_0 p3 lo) = (0 : Int32)))) k) ?_
        show own_Go p e below _ (T11.setTop (mkF m 173 #[.val (.int p0), .val (.int p1), .val (.int p2), .val (.int p3), .val (.int p4), .val (.int lo), .val (.int hi), .val (.int (0 : Int32)), .val (.ref b3), .val (.ref b5), .val (.int (own_n1_0 lo lo)), .val (.int (own_n1_0 hi lo)), .val (.int (own_n1_0 p3 lo)), .val (.int (0 : Int32)), .val (.int (0 : Int32))] []))
        refine own_st (fun _ k => XS.iconst X11.here hx rfl (hb hby at_173) k) ?_
        show own_Go p e below _ (T11.setTop (mkF m 174 #[.val (.int p0), .val (.int p1), .val (.int p2), .val (.int p3), .val (.int p4), .val (.int lo), .val (.int hi), .val (.int (0 : Int32)), .val (.ref b3), .val (.ref b5), .val (.int (own_n1_0 lo lo)), .val (.int (own_n1_0 hi lo)), .val (.int (own_n1_0 p3 lo)), .val (.int (0 : Int32)), .val (.int (0 : Int32))] [(.int (1 : Int32))]))
        refine own_st (fun _ k => XS.goto X11.here hx rfl (pc0 := 174) (pc' := 178) rfl (hb hby at_174) (by decide) (by decide) k) ?_
        show own_Go p e below _ (T11.setTop (mkF m 178 #[.val (.int p0), .val (.int p1), .val (.int p2), .val (.int p3), .val (.int p4), .val (.int lo), .val (.int hi), .val (.int (0 : Int32)), .val (.ref b3), .val (.ref b5), .val (.int (own_n1_0 lo lo)), .val (.int (own_n1_0 hi lo)), .val (.int (own_n1_0 p3 lo)), .val (.int (0 : Int32)), .val (.int (0 : Int32))] [(.int (1 : Int32))]))
        exact own_retZ X11 hx hlk hret rfl (hb hby at_178) ⟨rfl, N0⟩ (by decide) (by decide)
  · refine own_st (fun _ k => XS.ifNo X2.here hx rfl (hb hby at_18) rfl ((own_i0 _ _).trans (own_no (hc18 : ¬ ((p4 &&& (1 : Int32)) = (0 : Int32))))) k) ?_
    show own_Go p e below _ (T2.setTop (mkF m 21 #[.val (.int p0), .val (.int p1), .val (.int p2), .val (.int p3), .val (.int p4), .val (.int lo), .val (.int hi), .unset, .unset, .unset, .unset, .unset, .unset, .unset, .unset] []))
    refine own_st (fun _ k => XS.iload X2.here hx rfl (hb hby at_21) rfl k) ?_
    show own_Go p e below _ (T2.setTop (mkF m 23 #[.val (.int p0), .val (.int p1), .val (.int p2), .val (.int p3), .val (.int p4), .val (.int lo), .val (.int hi), .unset, .unset, .unset, .unset, .unset, .unset, .unset, .unset] [(.int lo)]))
    refine own_st (fun _ k => XS.iload X2.here hx rfl (hb hby at_23) rfl k) ?_
    show own_Go p e below _ (T2.setTop (mkF m 25 #[.val (.int p0), .val (.int p1), .val (.int p2), .val (.int p3), .val (.int p4), .val (.int lo), .val (.int hi), .unset, .unset, .unset, .unset, .unset, .unset, .unset, .unset] [(.int hi), (.int lo)]))
    by_cases hc25 : lo = hi
    · refine own_st (fun _ k => XS.icmpYes X2.here hx rfl (pc0 := 25) (pc' := 32) rfl (hb hby at_25) rfl ((own_i2 _ _ _).trans (own_yes (hc25 : lo = hi))) (by decide) (by decide) k) ?_
      show own_Go p e below _ (T2.setTop (mkF m 32 #[.val (.int p0), .val (.int p1), .val (.int p2), .val (.int p3), .val (.int p4), .val (.int lo), .val (.int hi), .unset, .unset, .unset, .unset, .unset, .unset, .unset, .unset] []))
      refine own_st (fun _ k => XS.iconst X2.here hx rfl (hb hby at_32) k) ?_
      show own_Go p e below _ (T2.setTop (mkF m 33 #[.val (.int p0), .val (.int p1), .val (.int p2), .val (.int p3), .val (.int p4), .val (.int lo), .val (.int hi), .unset, .unset, .unset, .unset, .unset, .unset, .unset, .unset] [(.int (0 : Int32))]))
      refine own_st (fun _ k => XS.istore X2.here hx rfl (hb hby at_33) rfl (l' := #[.val (.int p0), .val (.int p1), .val (.int p2), .val (.int p3), .val (.int p4), .val (.int lo), .val (.int hi), .val (.int (0 : Int32)), .unset, .unset, .unset, .unset, .unset, .unset, .unset]) rfl k) ?_
      show own_Go p e below _ (T2.setTop (mkF m 35 #[.val (.int p0), .val (.int p1), .val (.int p2), .val (.int p3), .val (.int p4), .val (.int lo), .val (.int hi), .val (.int (0 : Int32)), .unset, .unset, .unset, .unset, .unset, .unset, .unset] []))
      refine own_st (fun _ k => XS.iload X2.here hx rfl (hb hby at_35) rfl k) ?_
      show own_Go p e below _ (T2.setTop (mkF m 37 #[.val (.int p0), .val (.int p1), .val (.int p2), .val (.int p3), .val (.int p4), .val (.int lo), .val (.int hi), .val (.int (0 : Int32)), .unset, .unset, .unset, .unset, .unset, .unset, .unset] [(.int (0 : Int32))]))
      refine own_st (fun _ k => XS.ifYes X2.here hx rfl (pc0 := 37) (pc' := 56) rfl (hb hby at_37) rfl ((own_i0 _ _).trans (own_yes ((by decide : (0 : Int32) = (0 : Int32)) : (0 : Int32) = (0 : Int32)))) (by decide) (by decide) k) ?_
      show own_Go p e below _ (T2.setTop (mkF m 56 #[.val (.int p0), .val (.int p1), .val (.int p2), .val (.int p3), .val (.int p4), .val (.int lo), .val (.int hi), .val (.int (0 : Int32)), .unset, .unset, .unset, .unset, .unset, .unset, .unset] []))
      refine own_st (fun _ k => XS.iconst X2.here hx rfl (hb hby at_56) k) ?_
      show own_Go p e below _ (T2.setTop (mkF m 57 #[.val (.int p0), .val (.int p1), .val (.int p2), .val (.int p3), .val (.int p4), .val (.int lo), .val (.int hi), .val (.int (0 : Int32)), .unset, .unset, .unset, .unset, .unset, .unset, .unset] [(.int (1 : Int32))]))
      obtain ⟨T12, h12, k12, X12, e12, E12, A12, st12⟩ := newP X2 hx hZ (hw _ (List.mem_of_getElem? (i := 7) rfl)) e2 (g := (mkF m 57 #[.val (.int p0), .val (.int p1), .val (.int p2), .val (.int p3), .val (.int p4), .val (.int lo), .val (.int hi), .val (.int (0 : Int32)), .unset, .unset, .unset, .unset, .unset, .unset, .unset] [(.int (1 : Int32))])) rfl (hb hby at_57) rfl (by decide) (cap := 1) (by decide) (by decide) (by decide) (by decide)
      refine own_st st12 ?_
      obtain ⟨b12, g12⟩ : ∃ z, z = h0.size := ⟨_, rfl⟩
      rw [← g12] at A12 ⊢
      have g_b12 : n0 ≤ b12 := Nat.le_trans Z0 (Nat.le_of_eq g12.symm)
      replace Z0 := Nat.le_trans Z0 E12.1
      have V_b12 : Arv Z h12 b12 k12 .int (1 : Int32) [(.int (0 : Int32))] (.int (0 : Int32)) := (Arv.new A12 (by decide)).pad (pad_rep [] (.int (0 : Int32)) 1)
      show own_Go p e below _ (T12.setTop (mkF m 59 #[.val (.int p0), .val (.int p1), .val (.int p2), .val (.int p3), .val (.int p4), .val (.int lo), .val (.int hi), .val (.int (0 : Int32)), .unset, .unset, .unset, .unset, .unset, .unset, .unset] [(.ref b12)]))
      refine own_st (fun _ k => XS.dup X12.here hx rfl (hb hby at_59) rfl rfl k) ?_
      show own_Go p e below _ (T12.setTop (mkF m 60 #[.val (.int p0), .val (.int p1), .val (.int p2), .val (.int p3), .val (.int p4), .val (.int lo), .val (.int hi), .val (.int (0 : Int32)), .unset, .unset, .unset, .unset, .unset, .unset, .unset] [(.ref b12), (.ref b12)]))
      refine own_st (fun _ k => XS.iconst X12.here hx rfl (hb hby at_60) k) ?_
      show own_Go p e below _ (T12.setTop (mkF m 61 #[.val (.int p0), .val (.int p1), .val (.int p2), .val (.int p3), .val (.int p4), .val (.int lo), .val (.int hi), .val (.int (0 : Int32)), .unset, .unset, .unset, .unset, .unset, .unset, .unset] [(.int (0 : Int32)), (.ref b12), (.ref b12)]))
      refine own_st (fun _ k => XS.iload X12.here hx rfl (hb hby at_61) rfl k) ?_
      show own_Go p e below _ (T12.setTop (mkF m 63 #[.val (.int p0), .val (.int p1), .val (.int p2), .val (.int p3), .val (.int p4), .val (.int lo), .val (.int hi), .val (.int (0 : Int32)), .unset, .unset, .unset, .unset, .unset, .unset, .unset] [(.int lo), (.int (0 : Int32)), (.ref b12), (.ref b12)]))
      obtain ⟨cl13, Ar13, qc13, S13, M13, H13, G13⟩ := V_b12
      obtain ⟨T13, h13, X13, e13, W13, st13⟩ := stI X12 hx hZ e12 Ar13 (j := (0 : Int32)) (inb_of S13 ⟨by decide, by decide⟩) (g := (mkF m 63 #[.val (.int p0), .val (.int p1), .val (.int p2), .val (.int p3), .val (.int p4), .val (.int lo), .val (.int hi), .val (.int (0 : Int32)), .unset, .unset, .unset, .unset, .unset, .unset, .unset] [(.int lo), (.int (0 : Int32)), (.ref b12), (.ref b12)])) rfl rfl (hb hby at_63)
      refine own_st st13 ?_
      replace Z0 := Nat.le_trans Z0 (Nat.le_of_eq W13.size.symm)
      replace N0 := Fr.snoc X13 N0 g_b12
      have V_b12 : Arv Z h13 b12 k12 .int (1 : Int32) [(.int lo)] (.int (0 : Int32)) := Arv.set Ar13 qc13 S13 M13 H13 G13 rfl W13 0 rfl (Nat.le_of_ble_eq_true rfl)
      show own_Go p e below _ (T13.setTop (mkF m 64 #[.val (.int p0), .val (.int p1), .val (.int p2), .val (.int p3), .val (.int p4), .val (.int lo), .val (.int hi), .val (.int (0 : Int32)), .unset, .unset, .unset, .unset, .unset, .unset, .unset] [(.ref b12)]))
      refine own_st (fun _ k => XS.astore X13.here hx rfl (hb hby at_64) rfl rfl (l' := #[.val (.int p0), .val (.int p1), .val (.int p2), .val (.int p3), .val (.int p4), .val (.int lo), .val (.int hi), .val (.int (0 : Int32)), .val (.ref b12), .unset, .unset, .unset, .unset, .unset, .unset]) rfl k) ?_
      show own_Go p e below _ (T13.setTop (mkF m 66 #[.val (.int p0), .val (.int p1), .val (.int p2), .val (.int p3), .val (.int p4), .val (.int lo), .val (.int hi), .val (.int (0 : Int32)), .val (.ref b12), .unset, .unset, .unset, .unset, .unset, .unset] []))
      obtain ⟨T14, h14, X14, e14, E14, A14, D14, -, st14⟩ := newO X13 hx hZ hown (hw _ (List.mem_of_getElem? (i := 8) rfl)) (hw _ (List.mem_of_getElem? (i := 9) rfl)) (hw _ (List.mem_of_getElem? (i := 10) rfl)) e13 (g := (mkF m 66 #[.val (.int p0), .val (.int p1), .val (.int p2), .val (.int p3), .val (.int p4), .val (.int lo), .val (.int hi), .val (.int (0 : Int32)), .val (.ref b12), .unset, .unset, .unset, .unset, .unset, .unset] [])) rfl (hb hby at_66) (by decide) (by decide)
      refine own_st st14 ?_
      obtain ⟨b14, g14⟩ : ∃ z, z = h13.size := ⟨_, rfl⟩
      rw [← g14] at A14 D14 ⊢
      have g_b14 : n0 ≤ b14 := Nat.le_trans Z0 (Nat.le_of_eq g14.symm)
      have ne_b12_b14 : b12 ≠ b14 := Nat.ne_of_lt (Nat.lt_of_lt_of_le V_b12.lt (Nat.le_of_eq g14.symm))
      have ne_b14_b12 : b14 ≠ b12 := Ne.symm ne_b12_b14
      replace V_b12 := V_b12.ext E14
      replace Z0 := Nat.le_trans Z0 E14.1
      have F_sums_b14 : Fld Z h14 b14 "com/example/accordant/accordant/AliveTerms$Group" "sums" "[J" .null := D14 (Or.inr (hw _ (List.mem_of_getElem? (i := 20) rfl))) (ty := (.array .long)) (by decide)
      have F_party_b14 : Fld Z h14 b14 "com/example/accordant/accordant/AliveTerms$Group" "party" "I" (.int (0 : Int32)) := D14 (Or.inr (hw _ (List.mem_of_getElem? (i := 22) rfl))) (ty := .int) (by decide)
      have F_issues_b14 : Fld Z h14 b14 "com/example/accordant/accordant/AliveTerms$Group" "issues" "[I" .null := D14 (Or.inr (hw _ (List.mem_of_getElem? (i := 24) rfl))) (ty := (.array .int)) (by decide)
      have F_terms_b14 : Fld Z h14 b14 "com/example/accordant/accordant/AliveTerms$Group" "terms" "[I" .null := D14 (Or.inr (hw _ (List.mem_of_getElem? (i := 26) rfl))) (ty := (.array .int)) (by decide)
      show own_Go p e below _ (T14.setTop (mkF m 69 #[.val (.int p0), .val (.int p1), .val (.int p2), .val (.int p3), .val (.int p4), .val (.int lo), .val (.int hi), .val (.int (0 : Int32)), .val (.ref b12), .unset, .unset, .unset, .unset, .unset, .unset] [(.ref b14)]))
      refine own_st (fun _ k => XS.dup X14.here hx rfl (hb hby at_69) rfl rfl k) ?_
      show own_Go p e below _ (T14.setTop (mkF m 70 #[.val (.int p0), .val (.int p1), .val (.int p2), .val (.int p3), .val (.int p4), .val (.int lo), .val (.int hi), .val (.int (0 : Int32)), .val (.ref b12), .unset, .unset, .unset, .unset, .unset, .unset] [(.ref b14), (.ref b14)]))
      refine own_st (fun _ k => XS.iloadN X14.here hx rfl (hb hby at_70) rfl k) ?_
      show own_Go p e below _ (T14.setTop (mkF m 71 #[.val (.int p0), .val (.int p1), .val (.int p2), .val (.int p3), .val (.int p4), .val (.int lo), .val (.int hi), .val (.int (0 : Int32)), .val (.ref b12), .unset, .unset, .unset, .unset, .unset, .unset] [(.int p0), (.ref b14), (.ref b14)]))
      refine own_st (fun _ k => XS.aload X14.here hx rfl (hb hby at_71) rfl rfl k) ?_
      show own_Go p e below _ (T14.setTop (mkF m 73 #[.val (.int p0), .val (.int p1), .val (.int p2), .val (.int p3), .val (.int p4), .val (.int lo), .val (.int hi), .val (.int (0 : Int32)), .val (.ref b12), .unset, .unset, .unset, .unset, .unset, .unset] [(.ref b12), (.int p0), (.ref b14), (.ref b14)]))
      refine own_st (fun _ k => XS.iconst X14.here hx rfl (hb hby at_73) k) ?_
      show own_Go p e below _ (T14.setTop (mkF m 74 #[.val (.int p0), .val (.int p1), .val (.int p2), .val (.int p3), .val (.int p4), .val (.int lo), .val (.int hi), .val (.int (0 : Int32)), .val (.ref b12), .unset, .unset, .unset, .unset, .unset, .unset] [(.int (1 : Int32)), (.ref b12), (.int p0), (.ref b14), (.ref b14)]))
      obtain ⟨T15, h15, k15, X15, e15, E15, A15, st15⟩ := newP X14 hx hZ (hw _ (List.mem_of_getElem? (i := 7) rfl)) e14 (g := (mkF m 74 #[.val (.int p0), .val (.int p1), .val (.int p2), .val (.int p3), .val (.int p4), .val (.int lo), .val (.int hi), .val (.int (0 : Int32)), .val (.ref b12), .unset, .unset, .unset, .unset, .unset, .unset] [(.int (1 : Int32)), (.ref b12), (.int p0), (.ref b14), (.ref b14)])) rfl (hb hby at_74) rfl (by decide) (cap := 1) (by decide) (by decide) (by decide) (by decide)
      refine own_st st15 ?_
      obtain ⟨b15, g15⟩ : ∃ z, z = h14.size := ⟨_, rfl⟩
      rw [← g15] at A15 ⊢
      have g_b15 : n0 ≤ b15 := Nat.le_trans Z0 (Nat.le_of_eq g15.symm)
      have ne_b12_b15 : b12 ≠ b15 := Nat.ne_of_lt (Nat.lt_of_lt_of_le V_b12.lt (Nat.le_of_eq g15.symm))
      have ne_b15_b12 : b15 ≠ b12 := Ne.symm ne_b12_b15
      have ne_b14_b15 : b14 ≠ b15 := Nat.ne_of_lt (Nat.lt_of_lt_of_le A14.lt (Nat.le_of_eq g15.symm))
      have ne_b15_b14 : b15 ≠ b14 := Ne.symm ne_b14_b15
      replace V_b12 := V_b12.ext E15
      replace A14 := A14.ext E15
      replace F_sums_b14 := F_sums_b14.ext E15
      replace F_party_b14 := F_party_b14.ext E15
      replace F_issues_b14 := F_issues_b14.ext E15
      replace F_terms_b14 := F_terms_b14.ext E15
      replace Z0 := Nat.le_trans Z0 E15.1
      have V_b15 : Arv Z h15 b15 k15 .int (1 : Int32) [(.int (0 : Int32))] (.int (0 : Int32)) := (Arv.new A15 (by decide)).pad (pad_rep [] (.int (0 : Int32)) 1)
      show own_Go p e below _ (T15.setTop (mkF m 76 #[.val (.int p0), .val (.int p1), .val (.int p2), .val (.int p3), .val (.int p4), .val (.int lo), .val (.int hi), .val (.int (0 : Int32)), .val (.ref b12), .unset, .unset, .unset, .unset, .unset, .unset] [(.ref b15), (.ref b12), (.int p0), (.ref b14), (.ref b14)]))
      refine own_st (fun _ k => XS.dup X15.here hx rfl (hb hby at_76) rfl rfl k) ?_
      show own_Go p e below _ (T15.setTop (mkF m 77 #[.val (.int p0), .val (.int p1), .val (.int p2), .val (.int p3), .val (.int p4), .val (.int lo), .val (.int hi), .val (.int (0 : Int32)), .val (.ref b12), .unset, .unset, .unset, .unset, .unset, .unset] [(.ref b15), (.ref b15), (.ref b12), (.int p0), (.ref b14), (.ref b14)]))
      refine own_st (fun _ k => XS.iconst X15.here hx rfl (hb hby at_77) k) ?_
      show own_Go p e below _ (T15.setTop (mkF m 78 #[.val (.int p0), .val (.int p1), .val (.int p2), .val (.int p3), .val (.int p4), .val (.int lo), .val (.int hi), .val (.int (0 : Int32)), .val (.ref b12), .unset, .unset, .unset, .unset, .unset, .unset] [(.int (0 : Int32)), (.ref b15), (.ref b15), (.ref b12), (.int p0), (.ref b14), (.ref b14)]))
      refine own_st (fun _ k => XS.iconst X15.here hx rfl (hb hby at_78) k) ?_
      show own_Go p e below _ (T15.setTop (mkF m 79 #[.val (.int p0), .val (.int p1), .val (.int p2), .val (.int p3), .val (.int p4), .val (.int lo), .val (.int hi), .val (.int (0 : Int32)), .val (.ref b12), .unset, .unset, .unset, .unset, .unset, .unset] [(.int (0 : Int32)), (.int (0 : Int32)), (.ref b15), (.ref b15), (.ref b12), (.int p0), (.ref b14), (.ref b14)]))
      obtain ⟨cl16, Ar16, qc16, S16, M16, H16, G16⟩ := V_b15
      obtain ⟨T16, h16, X16, e16, W16, st16⟩ := stI X15 hx hZ e15 Ar16 (j := (0 : Int32)) (inb_of S16 ⟨by decide, by decide⟩) (g := (mkF m 79 #[.val (.int p0), .val (.int p1), .val (.int p2), .val (.int p3), .val (.int p4), .val (.int lo), .val (.int hi), .val (.int (0 : Int32)), .val (.ref b12), .unset, .unset, .unset, .unset, .unset, .unset] [(.int (0 : Int32)), (.int (0 : Int32)), (.ref b15), (.ref b15), (.ref b12), (.int p0), (.ref b14), (.ref b14)])) rfl rfl (hb hby at_79)
      refine own_st st16 ?_
      replace V_b12 := V_b12.other W16 ne_b12_b15
      replace A14 := A14.wr W16
      replace F_sums_b14 := F_sums_b14.other W16 (Or.inl ne_b14_b15)
      replace F_party_b14 := F_party_b14.other W16 (Or.inl ne_b14_b15)
      replace F_issues_b14 := F_issues_b14.other W16 (Or.inl ne_b14_b15)
      replace F_terms_b14 := F_terms_b14.other W16 (Or.inl ne_b14_b15)
      replace Z0 := Nat.le_trans Z0 (Nat.le_of_eq W16.size.symm)
      replace N0 := Fr.snoc X16 N0 g_b15
      have V_b15 : Arv Z h16 b15 k15 .int (1 : Int32) [(.int (0 : Int32))] (.int (0 : Int32)) := Arv.set Ar16 qc16 S16 M16 H16 G16 rfl W16 0 rfl (Nat.le_of_ble_eq_true rfl)
      show own_Go p e below _ (T16.setTop (mkF m 80 #[.val (.int p0), .val (.int p1), .val (.int p2), .val (.int p3), .val (.int p4), .val (.int lo), .val (.int hi), .val (.int (0 : Int32)), .val (.ref b12), .unset, .unset, .unset, .unset, .unset, .unset] [(.ref b15), (.ref b12), (.int p0), (.ref b14), (.ref b14)]))
      obtain ⟨_, T17, L17, X17, hQ17, st17⟩ := own_callI X16 hx hZ (y := (⟨"com/example/accordant/accordant/AliveTerms$Group", "<init>", "(I[I[I)V"⟩ : MethodName)) (a := b14) (argsL := [(.int p0), (.ref b12), (.ref b15)]) (rest := [(.ref b14)]) (W := 1) (g := (mkF m 80 #[.val (.int p0), .val (.int p1), .val (.int p2), .val (.int p3), .val (.int p4), .val (.int lo), .val (.int hi), .val (.int (0 : Int32)), .val (.ref b12), .unset, .unset, .unset, .unset, .unset, .unset] [(.ref b15), (.ref b12), (.int p0), (.ref b14), (.ref b14)])) (rm3 l Z tA hw b14 p0 b12 b15 h16 n0 Z0 g_b14 A14 F_sums_b14 F_party_b14 F_issues_b14 F_terms_b14) rfl hown (hw _ (List.mem_of_getElem? (i := 11) rfl)) (hw _ (List.mem_of_getElem? (i := 12) rfl)) (hw _ (List.mem_of_getElem? (i := 10) rfl)) (hw _ (List.mem_of_getElem? (i := 13) rfl)) (by decide) e16 rfl (by rw [hml]; rfl) pd_1 rfl rfl (by show 2 * 0 + _ ≤ _; exact Nat.le_of_eq rfl) (hb hby at_80) (by decide) (by decide) (by decide) (by decide)
      obtain ⟨h17, e17⟩ : ∃ z, T17.heap = z := ⟨_, rfl⟩
      rw [e17] at hQ17
      obtain ⟨rfl, Nq17, Kq17, b17s, kb17, g_b17s, ge17, Fq17_0, V_b17s, Fq17_1, Fq17_2, Fq17_3⟩ := hQ17
      have ne_b12_b17s : b12 ≠ b17s := Nat.ne_of_lt (Nat.lt_of_lt_of_le V_b12.lt ge17)
      have ne_b17s_b12 : b17s ≠ b12 := Ne.symm ne_b12_b17s
      have ne_b14_b17s : b14 ≠ b17s := Nat.ne_of_lt (Nat.lt_of_lt_of_le A14.lt ge17)
      have ne_b17s_b14 : b17s ≠ b14 := Ne.symm ne_b14_b17s
      have ne_b15_b17s : b15 ≠ b17s := Nat.ne_of_lt (Nat.lt_of_lt_of_le V_b15.lt ge17)
      have ne_b17s_b15 : b17s ≠ b15 := Ne.symm ne_b15_b17s
      replace V_b12 := V_b12.keep Kq17 (ninS ne_b12_b14 (nin0))
      replace A14 := A14.keep Kq17
      replace V_b15 := V_b15.keep Kq17 (ninS ne_b15_b14 (nin0))
      replace Z0 := Nat.le_trans Z0 Kq17.1
      replace N0 := Fr.app N0 Nq17
      refine own_st st17 ?_
      show own_Go p e below _ (T17.setTop (mkF m 83 #[.val (.int p0), .val (.int p1), .val (.int p2), .val (.int p3), .val (.int p4), .val (.int lo), .val (.int hi), .val (.int (0 : Int32)), .val (.ref b12), .unset, .unset, .unset, .unset, .unset, .unset] [(.ref b14)]))
      refine own_st (fun _ k => XS.astore X17.here hx rfl (hb hby at_83) rfl rfl (l' := #[.val (.int p0), .val (.int p1), .val (.int p2), .val (.int p3), .val (.int p4), .val (.int lo), .val (.int hi), .val (.int (0 : Int32)), .val (.ref b12), .val (.ref b14), .unset, .unset, .unset, .unset, .unset]) rfl k) ?_
      show own_Go p e below _ (T17.setTop (mkF m 85 #[.val (.int p0), .val (.int p1), .val (.int p2), .val (.int p3), .val (.int p4), .val (.int lo), .val (.int hi), .val (.int (0 : Int32)), .val (.ref b12), .val (.ref b14), .unset, .unset, .unset, .unset, .unset] []))
      refine own_st (fun _ k => XS.aload X17.here hx rfl (hb hby at_85) rfl rfl k) ?_
      show own_Go p e below _ (T17.setTop (mkF m 87 #[.val (.int p0), .val (.int p1), .val (.int p2), .val (.int p3), .val (.int p4), .val (.int lo), .val (.int hi), .val (.int (0 : Int32)), .val (.ref b12), .val (.ref b14), .unset, .unset, .unset, .unset, .unset] [(.ref b14)]))
      refine own_st (fun _ k => XS.iload X17.here hx rfl (hb hby at_87) rfl k) ?_
      show own_Go p e below _ (T17.setTop (mkF m 89 #[.val (.int p0), .val (.int p1), .val (.int p2), .val (.int p3), .val (.int p4), .val (.int lo), .val (.int hi), .val (.int (0 : Int32)), .val (.ref b12), .val (.ref b14), .unset, .unset, .unset, .unset, .unset] [(.int lo), (.ref b14)]))
      obtain ⟨_, T18, _, X18, ⟨rfl, rfl, e18⟩, st18⟩ := own_callV X17 hx hZ (y := (⟨"com/example/accordant/accordant/AliveTerms$Group", "narrows", "(I)Z"⟩ : MethodName)) (a := b14) (argsL := [(.int lo)]) (rest := []) (W := 0) (g := (mkF m 89 #[.val (.int p0), .val (.int p1), .val (.int p2), .val (.int p3), .val (.int p4), .val (.int lo), .val (.int hi), .val (.int (0 : Int32)), .val (.ref b12), .val (.ref b14), .unset, .unset, .unset, .unset, .unset] [(.int lo), (.ref b14)])) (rmN1 l Z tA hw b14 lo b12 k12 lo h17 Fq17_2 V_b12) A14 hown (hw _ (List.mem_of_getElem? (i := 27) rfl)) (hw _ (List.mem_of_getElem? (i := 28) rfl)) (hw _ (List.mem_of_getElem? (i := 30) rfl)) (hw _ (List.mem_of_getElem? (i := 29) rfl)) (hw _ (List.mem_of_getElem? (i := 10) rfl)) (hw _ (List.mem_of_getElem? (i := 31) rfl)) (by decide) e17 rfl (by rw [hml]; rfl) pd_3 rfl rfl (by show 2 * 0 + _ ≤ _; exact Nat.le_of_eq rfl) (hb hby at_89) (by decide) (by decide) (by decide) (by decide)
      replace X18 := own_flat X18
      refine own_st st18 ?_
      show own_Go p e below _ (T18.setTop (mkF m 92 #[.val (.int p0), .val (.int p1), .val (.int p2), .val (.int p3), .val (.int p4), .val (.int lo), .val (.int hi), .val (.int (0 : Int32)), .val (.ref b12), .val (.ref b14), .unset, .unset, .unset, .unset, .unset] [(.int (own_n1_0 lo lo))]))
      refine own_st (fun _ k => XS.istore X18.here hx rfl (hb hby at_92) rfl (l' := #[.val (.int p0), .val (.int p1), .val (.int p2), .val (.int p3), .val (.int p4), .val (.int lo), .val (.int hi), .val (.int (0 : Int32)), .val (.ref b12), .val (.ref b14), .val (.int (own_n1_0 lo lo)), .unset, .unset, .unset, .unset]) rfl k) ?_
      show own_Go p e below _ (T18.setTop (mkF m 94 #[.val (.int p0), .val (.int p1), .val (.int p2), .val (.int p3), .val (.int p4), .val (.int lo), .val (.int hi), .val (.int (0 : Int32)), .val (.ref b12), .val (.ref b14), .val (.int (own_n1_0 lo lo)), .unset, .unset, .unset, .unset] []))
      refine own_st (fun _ k => XS.aload X18.here hx rfl (hb hby at_94) rfl rfl k) ?_
      show own_Go p e below _ (T18.setTop (mkF m 96 #[.val (.int p0), .val (.int p1), .val (.int p2), .val (.int p3), .val (.int p4), .val (.int lo), .val (.int hi), .val (.int (0 : Int32)), .val (.ref b12), .val (.ref b14), .val (.int (own_n1_0 lo lo)), .unset, .unset, .unset, .unset] [(.ref b14)]))
      refine own_st (fun _ k => XS.iload X18.here hx rfl (hb hby at_96) rfl k) ?_
      show own_Go p e below _ (T18.setTop (mkF m 98 #[.val (.int p0), .val (.int p1), .val (.int p2), .val (.int p3), .val (.int p4), .val (.int lo), .val (.int hi), .val (.int (0 : Int32)), .val (.ref b12), .val (.ref b14), .val (.int (own_n1_0 lo lo)), .unset, .unset, .unset, .unset] [(.int hi), (.ref b14)]))
      obtain ⟨_, T19, _, X19, ⟨rfl, rfl, e19⟩, st19⟩ := own_callV X18 hx hZ (y := (⟨"com/example/accordant/accordant/AliveTerms$Group", "narrows", "(I)Z"⟩ : MethodName)) (a := b14) (argsL := [(.int hi)]) (rest := []) (W := 0) (g := (mkF m 98 #[.val (.int p0), .val (.int p1), .val (.int p2), .val (.int p3), .val (.int p4), .val (.int lo), .val (.int hi), .val (.int (0 : Int32)), .val (.ref b12), .val (.ref b14), .val (.int (own_n1_0 lo lo)), .unset, .unset, .unset, .unset] [(.int hi), (.ref b14)])) (rmN1 l Z tA hw b14 hi b12 k12 lo h17 Fq17_2 V_b12) A14 hown (hw _ (List.mem_of_getElem? (i := 27) rfl)) (hw _ (List.mem_of_getElem? (i := 28) rfl)) (hw _ (List.mem_of_getElem? (i := 30) rfl)) (hw _ (List.mem_of_getElem? (i := 29) rfl)) (hw _ (List.mem_of_getElem? (i := 10) rfl)) (hw _ (List.mem_of_getElem? (i := 31) rfl)) (by decide) e18 rfl (by rw [hml]; rfl) pd_3 rfl rfl (by show 2 * 0 + _ ≤ _; exact Nat.le_of_eq rfl) (hb hby at_98) (by decide) (by decide) (by decide) (by decide)
      replace X19 := own_flat X19
      refine own_st st19 ?_
      show own_Go p e below _ (T19.setTop (mkF m 101 #[.val (.int p0), .val (.int p1), .val (.int p2), .val (.int p3), .val (.int p4), .val (.int lo), .val (.int hi), .val (.int (0 : Int32)), .val (.ref b12), .val (.ref b14), .val (.int (own_n1_0 lo lo)), .unset, .unset, .unset, .unset] [(.int (own_n1_0 hi lo))]))
      refine own_st (fun _ k => XS.istore X19.here hx rfl (hb hby at_101) rfl (l' := #[.val (.int p0), .val (.int p1), .val (.int p2), .val (.int p3), .val (.int p4), .val (.int lo), .val (.int hi), .val (.int (0 : Int32)), .val (.ref b12), .val (.ref b14), .val (.int (own_n1_0 lo lo)), .val (.int (own_n1_0 hi lo)), .unset, .unset, .unset]) rfl k) ?_
      show own_Go p e below _ (T19.setTop (mkF m 103 #[.val (.int p0), .val (.int p1), .val (.int p2), .val (.int p3), .val (.int p4), .val (.int lo), .val (.int hi), .val (.int (0 : Int32)), .val (.ref b12), .val (.ref b14), .val (.int (own_n1_0 lo lo)), .val (.int (own_n1_0 hi lo)), .unset, .unset, .unset] []))
      refine own_st (fun _ k => XS.aload X19.here hx rfl (hb hby at_103) rfl rfl k) ?_
      show own_Go p e below _ (T19.setTop (mkF m 105 #[.val (.int p0), .val (.int p1), .val (.int p2), .val (.int p3), .val (.int p4), .val (.int lo), .val (.int hi), .val (.int (0 : Int32)), .val (.ref b12), .val (.ref b14), .val (.int (own_n1_0 lo lo)), .val (.int (own_n1_0 hi lo)), .unset, .unset, .unset] [(.ref b14)]))
      refine own_st (fun _ k => XS.iloadN X19.here hx rfl (hb hby at_105) rfl k) ?_
      show own_Go p e below _ (T19.setTop (mkF m 106 #[.val (.int p0), .val (.int p1), .val (.int p2), .val (.int p3), .val (.int p4), .val (.int lo), .val (.int hi), .val (.int (0 : Int32)), .val (.ref b12), .val (.ref b14), .val (.int (own_n1_0 lo lo)), .val (.int (own_n1_0 hi lo)), .unset, .unset, .unset] [(.int p3), (.ref b14)]))
      obtain ⟨_, T20, _, X20, ⟨rfl, rfl, e20⟩, st20⟩ := own_callV X19 hx hZ (y := (⟨"com/example/accordant/accordant/AliveTerms$Group", "narrows", "(I)Z"⟩ : MethodName)) (a := b14) (argsL := [(.int p3)]) (rest := []) (W := 0) (g := (mkF m 106 #[.val (.int p0), .val (.int p1), .val (.int p2), .val (.int p3), .val (.int p4), .val (.int lo), .val (.int hi), .val (.int (0 : Int32)), .val (.ref b12), .val (.ref b14), .val (.int (own_n1_0 lo lo)), .val (.int (own_n1_0 hi lo)), .unset, .unset, .unset] [(.int p3), (.ref b14)])) (rmN1 l Z tA hw b14 p3 b12 k12 lo h17 Fq17_2 V_b12) A14 hown (hw _ (List.mem_of_getElem? (i := 27) rfl)) (hw _ (List.mem_of_getElem? (i := 28) rfl)) (hw _ (List.mem_of_getElem? (i := 30) rfl)) (hw _ (List.mem_of_getElem? (i := 29) rfl)) (hw _ (List.mem_of_getElem? (i := 10) rfl)) (hw _ (List.mem_of_getElem? (i := 31) rfl)) (by decide) e19 rfl (by rw [hml]; rfl) pd_3 rfl rfl (by show 2 * 0 + _ ≤ _; exact Nat.le_of_eq rfl) (hb hby at_106) (by decide) (by decide) (by decide) (by decide)
      replace X20 := own_flat X20
      refine own_st st20 ?_
      show own_Go p e below _ (T20.setTop (mkF m 109 #[.val (.int p0), .val (.int p1), .val (.int p2), .val (.int p3), .val (.int p4), .val (.int lo), .val (.int hi), .val (.int (0 : Int32)), .val (.ref b12), .val (.ref b14), .val (.int (own_n1_0 lo lo)), .val (.int (own_n1_0 hi lo)), .unset, .unset, .unset] [(.int (own_n1_0 p3 lo))]))
      refine own_st (fun _ k => XS.istore X20.here hx rfl (hb hby at_109) rfl (l' := #[.val (.int p0), .val (.int p1), .val (.int p2), .val (.int p3), .val (.int p4), .val (.int lo), .val (.int hi), .val (.int (0 : Int32)), .val (.ref b12), .val (.ref b14), .val (.int (own_n1_0 lo lo)), .val (.int (own_n1_0 hi lo)), .val (.int (own_n1_0 p3 lo)), .unset, .unset]) rfl k) ?_
      show own_Go p e below _ (T20.setTop (mkF m 111 #[.val (.int p0), .val (.int p1), .val (.int p2), .val (.int p3), .val (.int p4), .val (.int lo), .val (.int hi), .val (.int (0 : Int32)), .val (.ref b12), .val (.ref b14), .val (.int (own_n1_0 lo lo)), .val (.int (own_n1_0 hi lo)), .val (.int (own_n1_0 p3 lo)), .unset, .unset] []))
      refine own_st (fun _ k => XS.iload X20.here hx rfl (hb hby at_111) rfl k) ?_
      show own_Go p e below _ (T20.setTop (mkF m 113 #[.val (.int p0), .val (.int p1), .val (.int p2), .val (.int p3), .val (.int p4), .val (.int lo), .val (.int hi), .val (.int (0 : Int32)), .val (.ref b12), .val (.ref b14), .val (.int (own_n1_0 lo lo)), .val (.int (own_n1_0 hi lo)), .val (.int (own_n1_0 p3 lo)), .unset, .unset] [(.int (0 : Int32))]))
      refine own_st (fun _ k => XS.ifNo X20.here hx rfl (hb hby at_113) rfl ((own_i0 _ _).trans (own_nyes ((by decide : (0 : Int32) = (0 : Int32)) : (0 : Int32) = (0 : Int32)))) k) ?_
      show own_Go p e below _ (T20.setTop (mkF m 116 #[.val (.int p0), .val (.int p1), .val (.int p2), .val (.int p3), .val (.int p4), .val (.int lo), .val (.int hi), .val (.int (0 : Int32)), .val (.ref b12), .val (.ref b14), .val (.int (own_n1_0 lo lo)), .val (.int (own_n1_0 hi lo)), .val (.int (own_n1_0 p3 lo)), .unset, .unset] []))
      refine own_st (fun _ k => XS.iload X20.here hx rfl (hb hby at_116) rfl k) ?_
      show own_Go p e below _ (T20.setTop (mkF m 118 #[.val (.int p0), .val (.int p1), .val (.int p2), .val (.int p3), .val (.int p4), .val (.int lo), .val (.int hi), .val (.int (0 : Int32)), .val (.ref b12), .val (.ref b14), .val (.int (own_n1_0 lo lo)), .val (.int (own_n1_0 hi lo)), .val (.int (own_n1_0 p3 lo)), .unset, .unset] [(.int hi)]))
      refine own_st (fun _ k => XS.iload X20.here hx rfl (hb hby at_118) rfl k) ?_
      show own_Go p e below _ (T20.setTop (mkF m 120 #[.val (.int p0), .val (.int p1), .val (.int p2), .val (.int p3), .val (.int p4), .val (.int lo), .val (.int hi), .val (.int (0 : Int32)), .val (.ref b12), .val (.ref b14), .val (.int (own_n1_0 lo lo)), .val (.int (own_n1_0 hi lo)), .val (.int (own_n1_0 p3 lo)), .unset, .unset] [(.int lo), (.int hi)]))
      by_cases hc120 : hi = lo
      · refine own_st (fun _ k => XS.icmpNo X20.here hx rfl (hb hby at_120) rfl ((own_i2 _ _ _).trans (own_nyes (hc120 : hi = lo))) k) ?_
        show own_Go p e below _ (T20.setTop (mkF m 123 #[.val (.int p0), .val (.int p1), .val (.int p2), .val (.int p3), .val (.int p4), .val (.int lo), .val (.int hi), .val (.int (0 : Int32)), .val (.ref b12), .val (.ref b14), .val (.int (own_n1_0 lo lo)), .val (.int (own_n1_0 hi lo)), .val (.int (own_n1_0 p3 lo)), .unset, .unset] []))
        refine own_st (fun _ k => XS.iconst X20.here hx rfl (hb hby at_123) k) ?_
        show own_Go p e below _ (T20.setTop (mkF m 124 #[.val (.int p0), .val (.int p1), .val (.int p2), .val (.int p3), .val (.int p4), .val (.int lo), .val (.int hi), .val (.int (0 : Int32)), .val (.ref b12), .val (.ref b14), .val (.int (own_n1_0 lo lo)), .val (.int (own_n1_0 hi lo)), .val (.int (own_n1_0 p3 lo)), .unset, .unset] [(.int (1 : Int32))]))
        refine own_st (fun _ k => XS.goto X20.here hx rfl (pc0 := 124) (pc' := 128) rfl (hb hby at_124) (by decide) (by decide) k) ?_
        show own_Go p e below _ (T20.setTop (mkF m 128 #[.val (.int p0), .val (.int p1), .val (.int p2), .val (.int p3), .val (.int p4), .val (.int lo), .val (.int hi), .val (.int (0 : Int32)), .val (.ref b12), .val (.ref b14), .val (.int (own_n1_0 lo lo)), .val (.int (own_n1_0 hi lo)), .val (.int (own_n1_0 p3 lo)), .unset, .unset] [(.int (1 : Int32))]))
        refine own_st (fun _ k => XS.istore X20.here hx rfl (hb hby at_128) rfl (l' := #[.val (.int p0), .val (.int p1), .val (.int p2), .val (.int p3), .val (.int p4), .val (.int lo), .val (.int hi), .val (.int (0 : Int32)), .val (.ref b12), .val (.ref b14), .val (.int (own_n1_0 lo lo)), .val (.int (own_n1_0 hi lo)), .val (.int (own_n1_0 p3 lo)), .val (.int (1 : Int32)), .unset]) rfl k) ?_
        show own_Go p e below _ (T20.setTop (mkF m 130 #[.val (.int p0), .val (.int p1), .val (.int p2), .val (.int p3), .val (.int p4), .val (.int lo), .val (.int hi), .val (.int (0 : Int32)), .val (.ref b12), .val (.ref b14), .val (.int (own_n1_0 lo lo)), .val (.int (own_n1_0 hi lo)), .val (.int (own_n1_0 p3 lo)), .val (.int (1 : Int32)), .unset] []))
        refine own_st (fun _ k => XS.iloadN X20.here hx rfl (hb hby at_130) rfl k) ?_
        show own_Go p e below _ (T20.setTop (mkF m 131 #[.val (.int p0), .val (.int p1), .val (.int p2), .val (.int p3), .val (.int p4), .val (.int lo), .val (.int hi), .val (.int (0 : Int32)), .val (.ref b12), .val (.ref b14), .val (.int (own_n1_0 lo lo)), .val (.int (own_n1_0 hi lo)), .val (.int (own_n1_0 p3 lo)), .val (.int (1 : Int32)), .unset] [(.int p3)]))
        refine own_st (fun _ k => XS.iload X20.here hx rfl (hb hby at_131) rfl k) ?_
        show own_Go p e below _ (T20.setTop (mkF m 133 #[.val (.int p0), .val (.int p1), .val (.int p2), .val (.int p3), .val (.int p4), .val (.int lo), .val (.int hi), .val (.int (0 : Int32)), .val (.ref b12), .val (.ref b14), .val (.int (own_n1_0 lo lo)), .val (.int (own_n1_0 hi lo)), .val (.int (own_n1_0 p3 lo)), .val (.int (1 : Int32)), .unset] [(.int lo), (.int p3)]))
        by_cases hc133 : p3 = lo
        · refine own_st (fun _ k => XS.icmpYes X20.here hx rfl (pc0 := 133) (pc' := 147) rfl (hb hby at_133) rfl ((own_i2 _ _ _).trans (own_yes (hc133 : p3 = lo))) (by decide) (by decide) k) ?_
          show own_Go p e below _ (T20.setTop (mkF m 147 #[.val (.int p0), .val (.int p1), .val (.int p2), .val (.int p3), .val (.int p4), .val (.int lo), .val (.int hi), .val (.int (0 : Int32)), .val (.ref b12), .val (.ref b14), .val (.int (own_n1_0 lo lo)), .val (.int (own_n1_0 hi lo)), .val (.int (own_n1_0 p3 lo)), .val (.int (1 : Int32)), .unset] []))
          refine own_st (fun _ k => XS.iconst X20.here hx rfl (hb hby at_147) k) ?_
          show own_Go p e below _ (T20.setTop (mkF m 148 #[.val (.int p0), .val (.int p1), .val (.int p2), .val (.int p3), .val (.int p4), .val (.int lo), .val (.int hi), .val (.int (0 : Int32)), .val (.ref b12), .val (.ref b14), .val (.int (own_n1_0 lo lo)), .val (.int (own_n1_0 hi lo)), .val (.int (own_n1_0 p3 lo)), .val (.int (1 : Int32)), .unset] [(.int (1 : Int32))]))
          refine own_st (fun _ k => XS.goto X20.here hx rfl (pc0 := 148) (pc' := 152) rfl (hb hby at_148) (by decide) (by decide) k) ?_
          show own_Go p e below _ (T20.setTop (mkF m 152 #[.val (.int p0), .val (.int p1), .val (.int p2), .val (.int p3), .val (.int p4), .val (.int lo), .val (.int hi), .val (.int (0 : Int32)), .val (.ref b12), .val (.ref b14), .val (.int (own_n1_0 lo lo)), .val (.int (own_n1_0 hi lo)), .val (.int (own_n1_0 p3 lo)), .val (.int (1 : Int32)), .unset] [(.int (1 : Int32))]))
          refine own_st (fun _ k => XS.istore X20.here hx rfl (hb hby at_152) rfl (l' := #[.val (.int p0), .val (.int p1), .val (.int p2), .val (.int p3), .val (.int p4), .val (.int lo), .val (.int hi), .val (.int (0 : Int32)), .val (.ref b12), .val (.ref b14), .val (.int (own_n1_0 lo lo)), .val (.int (own_n1_0 hi lo)), .val (.int (own_n1_0 p3 lo)), .val (.int (1 : Int32)), .val (.int (1 : Int32))]) rfl k) ?_
          show own_Go p e below _ (T20.setTop (mkF m 154 #[.val (.int p0), .val (.int p1), .val (.int p2), .val (.int p3), .val (.int p4), .val (.int lo), .val (.int hi), .val (.int (0 : Int32)), .val (.ref b12), .val (.ref b14), .val (.int (own_n1_0 lo lo)), .val (.int (own_n1_0 hi lo)), .val (.int (own_n1_0 p3 lo)), .val (.int (1 : Int32)), .val (.int (1 : Int32))] []))
          refine own_st (fun _ k => XS.iload X20.here hx rfl (hb hby at_154) rfl k) ?_
          show own_Go p e below _ (T20.setTop (mkF m 156 #[.val (.int p0), .val (.int p1), .val (.int p2), .val (.int p3), .val (.int p4), .val (.int lo), .val (.int hi), .val (.int (0 : Int32)), .val (.ref b12), .val (.ref b14), .val (.int (own_n1_0 lo lo)), .val (.int (own_n1_0 hi lo)), .val (.int (own_n1_0 p3 lo)), .val (.int (1 : Int32)), .val (.int (1 : Int32))] [(.int (own_n1_0 lo lo))]))
          refine own_st (fun _ k => XS.ifNo X20.here hx rfl (hb hby at_156) rfl ((own_i0 _ _).trans (own_no ((own_ne0 (own_y1 rfl)) : ¬ ((own_n1_0 lo lo) = (0 : Int32))))) k) ?_
          show own_Go p e below _ (T20.setTop (mkF m 159 #[.val (.int p0), .val (.int p1), .val (.int p2), .val (.int p3), .val (.int p4), .val (.int lo), .val (.int hi), .val (.int (0 : Int32)), .val (.ref b12), .val (.ref b14), .val (.int (own_n1_0 lo lo)), .val (.int (own_n1_0 hi lo)), .val (.int (own_n1_0 p3 lo)), .val (.int (1 : Int32)), .val (.int (1 : Int32))] []))
          refine own_st (fun _ k => XS.iload X20.here hx rfl (hb hby at_159) rfl k) ?_
          show own_Go p e below _ (T20.setTop (mkF m 161 #[.val (.int p0), .val (.int p1), .val (.int p2), .val (.int p3), .val (.int p4), .val (.int lo), .val (.int hi), .val (.int (0 : Int32)), .val (.ref b12), .val (.ref b14), .val (.int (own_n1_0 lo lo)), .val (.int (own_n1_0 hi lo)), .val (.int (own_n1_0 p3 lo)), .val (.int (1 : Int32)), .val (.int (1 : Int32))] [(.int (own_n1_0 hi lo))]))
          refine own_st (fun _ k => XS.iload X20.here hx rfl (hb hby at_161) rfl k) ?_
          show own_Go p e below _ (T20.setTop (mkF m 163 #[.val (.int p0), .val (.int p1), .val (.int p2), .val (.int p3), .val (.int p4), .val (.int lo), .val (.int hi), .val (.int (0 : Int32)), .val (.ref b12), .val (.ref b14), .val (.int (own_n1_0 lo lo)), .val (.int (own_n1_0 hi lo)), .val (.int (own_n1_0 p3 lo)), .val (.int (1 : Int32)), .val (.int (1 : Int32))] [(.int (1 : Int32)), (.int (own_n1_0 hi lo))]))
          refine own_st (fun _ k => XS.icmpNo X20.here hx rfl (hb hby at_163) rfl ((own_i2 _ _ _).trans (own_nyes ((own_y1 hc120) : (own_n1_0 hi lo) = (1 : Int32)))) k) ?_
          show own_Go p e below _ (T20.setTop (mkF m 166 #[.val (.int p0), .val (.int p1), .val (.int p2), .val (.int p3), .val (.int p4), .val (.int lo), .val (.int hi), .val (.int (0 : Int32)), .val (.ref b12), .val (.ref b14), .val (.int (own_n1_0 lo lo)), .val (.int (own_n1_0 hi lo)), .val (.int (own_n1_0 p3 lo)), .val (.int (1 : Int32)), .val (.int (1 : Int32))] []))
          refine own_st (fun _ k => XS.iload X20.here hx rfl (hb hby at_166) rfl k) ?_
          show own_Go p e below _ (T20.setTop (mkF m 168 #[.val (.int p0), .val (.int p1), .val (.int p2), .val (.int p3), .val (.int p4), .val (.int lo), .val (.int hi), .val (.int (0 : Int32)), .val (.ref b12), .val (.ref b14), .val (.int (own_n1_0 lo lo)), .val (.int (own_n1_0 hi lo)), .val (.int (own_n1_0 p3 lo)), .val (.int (1 : Int32)), .val (.int (1 : Int32))] [(.int (own_n1_0 p3 lo))]))
          refine own_st (fun _ k => XS.iload X20.here hx rfl (hb hby at_168) rfl k) ?_
          show own_Go p e below _ (T20.setTop (mkF m 170 #[.val (.int p0), .val (.int p1), .val (.int p2), .val (.int p3), .val (.int p4), .val (.int lo), .val (.int hi), .val (.int (0 : Int32)), .val (.ref b12), .val (.ref b14), .val (.int (own_n1_0 lo lo)), .val (.int (own_n1_0 hi lo)), .val (.int (own_n1_0 p3 lo)), .val (.int (1 : Int32)), .val (.int (1 : Int32))] [(.int (1 : Int32)), (.int (own_n1_0 p3 lo))]))
          refine own_st (fun _ k => XS.icmpNo X20.here hx rfl (hb hby at_170) rfl ((own_i2 _ _ _).trans (own_nyes ((own_y1 hc133) : (own_n1_0 p3 lo) = (1 : Int32)))) k) ?_
          show own_Go p e below _ (T20.setTop (mkF m 173 #[.val (.int p0), .val (.int p1), .val (.int p2), .val (.int p3), .val (.int p4), .val (.int lo), .val (.int hi), .val (.int (0 : Int32)), .val (.ref b12), .val (.ref b14), .val (.int (own_n1_0 lo lo)), .val (.int (own_n1_0 hi lo)), .val (.int (own_n1_0 p3 lo)), .val (.int (1 : Int32)), .val (.int (1 : Int32))] []))
          refine own_st (fun _ k => XS.iconst X20.here hx rfl (hb hby at_173) k) ?_
          show own_Go p e below _ (T20.setTop (mkF m 174 #[.val (.int p0), .val (.int p1), .val (.int p2), .val (.int p3), .val (.int p4), .val (.int lo), .val (.int hi), .val (.int (0 : Int32)), .val (.ref b12), .val (.ref b14), .val (.int (own_n1_0 lo lo)), .val (.int (own_n1_0 hi lo)), .val (.int (own_n1_0 p3 lo)), .val (.int (1 : Int32)), .val (.int (1 : Int32))] [(.int (1 : Int32))]))
          refine own_st (fun _ k => XS.goto X20.here hx rfl (pc0 := 174) (pc' := 178) rfl (hb hby at_174) (by decide) (by decide) k) ?_
          show own_Go p e below _ (T20.setTop (mkF m 178 #[.val (.int p0), .val (.int p1), .val (.int p2), .val (.int p3), .val (.int p4), .val (.int lo), .val (.int hi), .val (.int (0 : Int32)), .val (.ref b12), .val (.ref b14), .val (.int (own_n1_0 lo lo)), .val (.int (own_n1_0 hi lo)), .val (.int (own_n1_0 p3 lo)), .val (.int (1 : Int32)), .val (.int (1 : Int32))] [(.int (1 : Int32))]))
          exact own_retZ X20 hx hlk hret rfl (hb hby at_178) ⟨rfl, N0⟩ (by decide) (by decide)
        · refine own_st (fun _ k => XS.icmpNo X20.here hx rfl (hb hby at_133) rfl ((own_i2 _ _ _).trans (own_no (hc133 : ¬ (p3 = lo)))) k) ?_
          show own_Go p e below _ (T20.setTop (mkF m 136 #[.val (.int p0), .val (.int p1), .val (.int p2), .val (.int p3), .val (.int p4), .val (.int lo), .val (.int hi), .val (.int (0 : Int32)), .val (.ref b12), .val (.ref b14), .val (.int (own_n1_0 lo lo)), .val (.int (own_n1_0 hi lo)), .val (.int (own_n1_0 p3 lo)), .val (.int (1 : Int32)), .unset] []))
          refine own_st (fun _ k => XS.iload X20.here hx rfl (hb hby at_136) rfl k) ?_
          show own_Go p e below _ (T20.setTop (mkF m 138 #[.val (.int p0), .val (.int p1), .val (.int p2), .val (.int p3), .val (.int p4), .val (.int lo), .val (.int hi), .val (.int (0 : Int32)), .val (.ref b12), .val (.ref b14), .val (.int (own_n1_0 lo lo)), .val (.int (own_n1_0 hi lo)), .val (.int (own_n1_0 p3 lo)), .val (.int (1 : Int32)), .unset] [(.int (0 : Int32))]))
          refine own_st (fun _ k => XS.ifYes X20.here hx rfl (pc0 := 138) (pc' := 151) rfl (hb hby at_138) rfl ((own_i0 _ _).trans (own_yes ((by decide : (0 : Int32) = (0 : Int32)) : (0 : Int32) = (0 : Int32)))) (by decide) (by decide) k) ?_
          show own_Go p e below _ (T20.setTop (mkF m 151 #[.val (.int p0), .val (.int p1), .val (.int p2), .val (.int p3), .val (.int p4), .val (.int lo), .val (.int hi), .val (.int (0 : Int32)), .val (.ref b12), .val (.ref b14), .val (.int (own_n1_0 lo lo)), .val (.int (own_n1_0 hi lo)), .val (.int (own_n1_0 p3 lo)), .val (.int (1 : Int32)), .unset] []))
          refine own_st (fun _ k => XS.iconst X20.here hx rfl (hb hby at_151) k) ?_
          show own_Go p e below _ (T20.setTop (mkF m 152 #[.val (.int p0), .val (.int p1), .val (.int p2), .val (.int p3), .val (.int p4), .val (.int lo), .val (.int hi), .val (.int (0 : Int32)), .val (.ref b12), .val (.ref b14), .val (.int (own_n1_0 lo lo)), .val (.int (own_n1_0 hi lo)), .val (.int (own_n1_0 p3 lo)), .val (.int (1 : Int32)), .unset] [(.int (0 : Int32))]))
          refine own_st (fun _ k => XS.istore X20.here hx rfl (hb hby at_152) rfl (l' := #[.val (.int p0), .val (.int p1), .val (.int p2), .val (.int p3), .val (.int p4), .val (.int lo), .val (.int hi), .val (.int (0 : Int32)), .val (.ref b12), .val (.ref b14), .val (.int (own_n1_0 lo lo)), .val (.int (own_n1_0 hi lo)), .val (.int (own_n1_0 p3 lo)), .val (.int (1 : Int32)), .val (.int (0 : Int32))]) rfl k) ?_
          show own_Go p e below _ (T20.setTop (mkF m 154 #[.val (.int p0), .val (.int p1), .val (.int p2), .val (.int p3), .val (.int p4), .val (.int lo), .val (.int hi), .val (.int (0 : Int32)), .val (.ref b12), .val (.ref b14), .val (.int (own_n1_0 lo lo)), .val (.int (own_n1_0 hi lo)), .val (.int (own_n1_0 p3 lo)), .val (.int (1 : Int32)), .val (.int (0 : Int32))] []))
          refine own_st (fun _ k => XS.iload X20.here hx rfl (hb hby at_154) rfl k) ?_
          show own_Go p e below _ (T20.setTop (mkF m 156 #[.val (.int p0), .val (.int p1), .val (.int p2), .val (.int p3), .val (.int p4), .val (.int lo), .val (.int hi), .val (.int (0 : Int32)), .val (.ref b12), .val (.ref b14), .val (.int (own_n1_0 lo lo)), .val (.int (own_n1_0 hi lo)), .val (.int (own_n1_0 p3 lo)), .val (.int (1 : Int32)), .val (.int (0 : Int32))] [(.int (own_n1_0 lo lo))]))
          refine own_st (fun _ k => XS.ifNo X20.here hx rfl (hb hby at_156) rfl ((own_i0 _ _).trans (own_no ((own_ne0 (own_y1 rfl)) : ¬ ((own_n1_0 lo lo) = (0 : Int32))))) k) ?_
          show own_Go p e below _ (T20.setTop (mkF m 159 #[.val (.int p0), .val (.int p1), .val (.int p2), .val (.int p3), .val (.int p4), .val (.int lo), .val (.int hi), .val (.int (0 : Int32)), .val (.ref b12), .val (.ref b14), .val (.int (own_n1_0 lo lo)), .val (.int (own_n1_0 hi lo)), .val (.int (own_n1_0 p3 lo)), .val (.int (1 : Int32)), .val (.int (0 : Int32))] []))
          refine own_st (fun _ k => XS.iload X20.here hx rfl (hb hby at_159) rfl k) ?_
          show own_Go p e below _ (T20.setTop (mkF m 161 #[.val (.int p0), .val (.int p1), .val (.int p2), .val (.int p3), .val (.int p4), .val (.int lo), .val (.int hi), .val (.int (0 : Int32)), .val (.ref b12), .val (.ref b14), .val (.int (own_n1_0 lo lo)), .val (.int (own_n1_0 hi lo)), .val (.int (own_n1_0 p3 lo)), .val (.int (1 : Int32)), .val (.int (0 : Int32))] [(.int (own_n1_0 hi lo))]))
          refine own_st (fun _ k => XS.iload X20.here hx rfl (hb hby at_161) rfl k) ?_
          show own_Go p e below _ (T20.setTop (mkF m 163 #[.val (.int p0), .val (.int p1), .val (.int p2), .val (.int p3), .val (.int p4), .val (.int lo), .val (.int hi), .val (.int (0 : Int32)), .val (.ref b12), .val (.ref b14), .val (.int (own_n1_0 lo lo)), .val (.int (own_n1_0 hi lo)), .val (.int (own_n1_0 p3 lo)), .val (.int (1 : Int32)), .val (.int (0 : Int32))] [(.int (1 : Int32)), (.int (own_n1_0 hi lo))]))
          refine own_st (fun _ k => XS.icmpNo X20.here hx rfl (hb hby at_163) rfl ((own_i2 _ _ _).trans (own_nyes ((own_y1 hc120) : (own_n1_0 hi lo) = (1 : Int32)))) k) ?_
          show own_Go p e below _ (T20.setTop (mkF m 166 #[.val (.int p0), .val (.int p1), .val (.int p2), .val (.int p3), .val (.int p4), .val (.int lo), .val (.int hi), .val (.int (0 : Int32)), .val (.ref b12), .val (.ref b14), .val (.int (own_n1_0 lo lo)), .val (.int (own_n1_0 hi lo)), .val (.int (own_n1_0 p3 lo)), .val (.int (1 : Int32)), .val (.int (0 : Int32))] []))
          refine own_st (fun _ k => XS.iload X20.here hx rfl (hb hby at_166) rfl k) ?_
          show own_Go p e below _ (T20.setTop (mkF m 168 #[.val (.int p0), .val (.int p1), .val (.int p2), .val (.int p3), .val (.int p4), .val (.int lo), .val (.int hi), .val (.int (0 : Int32)), .val (.ref b12), .val (.ref b14), .val (.int (own_n1_0 lo lo)), .val (.int (own_n1_0 hi lo)), .val (.int (own_n1_0 p3 lo)), .val (.int (1 : Int32)), .val (.int (0 : Int32))] [(.int (own_n1_0 p3 lo))]))
          refine own_st (fun _ k => XS.iload X20.here hx rfl (hb hby at_168) rfl k) ?_
          show own_Go p e below _ (T20.setTop (mkF m 170 #[.val (.int p0), .val (.int p1), .val (.int p2), .val (.int p3), .val (.int p4), .val (.int lo), .val (.int hi), .val (.int (0 : Int32)), .val (.ref b12), .val (.ref b14), .val (.int (own_n1_0 lo lo)), .val (.int (own_n1_0 hi lo)), .val (.int (own_n1_0 p3 lo)), .val (.int (1 : Int32)), .val (.int (0 : Int32))] [(.int (0 : Int32)), (.int (own_n1_0 p3 lo))]))
          refine own_st (fun _ k => XS.icmpNo X20.here hx rfl (hb hby at_170) rfl ((own_i2 _ _ _).trans (own_nyes ((own_z1 hc133) : (own_n1_0 p3 lo) = (0 : Int32)))) k) ?_
          show own_Go p e below _ (T20.setTop (mkF m 173 #[.val (.int p0), .val (.int p1), .val (.int p2), .val (.int p3), .val (.int p4), .val (.int lo), .val (.int hi), .val (.int (0 : Int32)), .val (.ref b12), .val (.ref b14), .val (.int (own_n1_0 lo lo)), .val (.int (own_n1_0 hi lo)), .val (.int (own_n1_0 p3 lo)), .val (.int (1 : Int32)), .val (.int (0 : Int32))] []))
          refine own_st (fun _ k => XS.iconst X20.here hx rfl (hb hby at_173) k) ?_
          show own_Go p e below _ (T20.setTop (mkF m 174 #[.val (.int p0), .val (.int p1), .val (.int p2), .val (.int p3), .val (.int p4), .val (.int lo), .val (.int hi), .val (.int (0 : Int32)), .val (.ref b12), .val (.ref b14), .val (.int (own_n1_0 lo lo)), .val (.int (own_n1_0 hi lo)), .val (.int (own_n1_0 p3 lo)), .val (.int (1 : Int32)), .val (.int (0 : Int32))] [(.int (1 : Int32))]))
          refine own_st (fun _ k => XS.goto X20.here hx rfl (pc0 := 174) (pc' := 178) rfl (hb hby at_174) (by decide) (by decide) k) ?_
          show own_Go p e below _ (T20.setTop (mkF m 178 #[.val (.int p0), .val (.int p1), .val (.int p2), .val (.int p3), .val (.int p4), .val (.int lo), .val (.int hi), .val (.int (0 : Int32)), .val (.ref b12), .val (.ref b14), .val (.int (own_n1_0 lo lo)), .val (.int (own_n1_0 hi lo)), .val (.int (own_n1_0 p3 lo)), .val (.int (1 : Int32)), .val (.int (0 : Int32))] [(.int (1 : Int32))]))
          exact own_retZ X20 hx hlk hret rfl (hb hby at_178) ⟨rfl, N0⟩ (by decide) (by decide)
      · refine own_st (fun _ k => XS.icmpYes X20.here hx rfl (pc0 := 120) (pc' := 127) rfl (hb hby at_120) rfl ((own_i2 _ _ _).trans (own_nno (hc120 : ¬ (hi = lo)))) (by decide) (by decide) k) ?_
        show own_Go p e below _ (T20.setTop (mkF m 127 #[.val (.int p0), .val (.int p1), .val (.int p2), .val (.int p3), .val (.int p4), .val (.int lo), .val (.int hi), .val (.int (0 : Int32)), .val (.ref b12), .val (.ref b14), .val (.int (own_n1_0 lo lo)), .val (.int (own_n1_0 hi lo)), .val (.int (own_n1_0 p3 lo)), .unset, .unset] []))
        refine own_st (fun _ k => XS.iconst X20.here hx rfl (hb hby at_127) k) ?_
        show own_Go p e below _ (T20.setTop (mkF m 128 #[.val (.int p0), .val (.int p1), .val (.int p2), .val (.int p3), .val (.int p4), .val (.int lo), .val (.int hi), .val (.int (0 : Int32)), .val (.ref b12), .val (.ref b14), .val (.int (own_n1_0 lo lo)), .val (.int (own_n1_0 hi lo)), .val (.int (own_n1_0 p3 lo)), .unset, .unset] [(.int (0 : Int32))]))
        refine own_st (fun _ k => XS.istore X20.here hx rfl (hb hby at_128) rfl (l' := #[.val (.int p0), .val (.int p1), .val (.int p2), .val (.int p3), .val (.int p4), .val (.int lo), .val (.int hi), .val (.int (0 : Int32)), .val (.ref b12), .val (.ref b14), .val (.int (own_n1_0 lo lo)), .val (.int (own_n1_0 hi lo)), .val (.int (own_n1_0 p3 lo)), .val (.int (0 : Int32)), .unset]) rfl k) ?_
        show own_Go p e below _ (T20.setTop (mkF m 130 #[.val (.int p0), .val (.int p1), .val (.int p2), .val (.int p3), .val (.int p4), .val (.int lo), .val (.int hi), .val (.int (0 : Int32)), .val (.ref b12), .val (.ref b14), .val (.int (own_n1_0 lo lo)), .val (.int (own_n1_0 hi lo)), .val (.int (own_n1_0 p3 lo)), .val (.int (0 : Int32)), .unset] []))
        refine own_st (fun _ k => XS.iloadN X20.here hx rfl (hb hby at_130) rfl k) ?_
        show own_Go p e below _ (T20.setTop (mkF m 131 #[.val (.int p0), .val (.int p1), .val (.int p2), .val (.int p3), .val (.int p4), .val (.int lo), .val (.int hi), .val (.int (0 : Int32)), .val (.ref b12), .val (.ref b14), .val (.int (own_n1_0 lo lo)), .val (.int (own_n1_0 hi lo)), .val (.int (own_n1_0 p3 lo)), .val (.int (0 : Int32)), .unset] [(.int p3)]))
        refine own_st (fun _ k => XS.iload X20.here hx rfl (hb hby at_131) rfl k) ?_
        show own_Go p e below _ (T20.setTop (mkF m 133 #[.val (.int p0), .val (.int p1), .val (.int p2), .val (.int p3), .val (.int p4), .val (.int lo), .val (.int hi), .val (.int (0 : Int32)), .val (.ref b12), .val (.ref b14), .val (.int (own_n1_0 lo lo)), .val (.int (own_n1_0 hi lo)), .val (.int (own_n1_0 p3 lo)), .val (.int (0 : Int32)), .unset] [(.int lo), (.int p3)]))
        by_cases hc133 : p3 = lo
        · refine own_st (fun _ k => XS.icmpYes X20.here hx rfl (pc0 := 133) (pc' := 147) rfl (hb hby at_133) rfl ((own_i2 _ _ _).trans (own_yes (hc133 : p3 = lo))) (by decide) (by decide) k) ?_
          show own_Go p e below _ (T20.setTop (mkF m 147 #[.val (.int p0), .val (.int p1), .val (.int p2), .val (.int p3), .val (.int p4), .val (.int lo), .val (.int hi), .val (.int (0 : Int32)), .val (.ref b12), .val (.ref b14), .val (.int (own_n1_0 lo lo)), .val (.int (own_n1_0 hi lo)), .val (.int (own_n1_0 p3 lo)), .val (.int (0 : Int32)), .unset] []))
          refine own_st (fun _ k => XS.iconst X20.here hx rfl (hb hby at_147) k) ?_
          show own_Go p e below _ (T20.setTop (mkF m 148 #[.val (.int p0), .val (.int p1), .val (.int p2), .val (.int p3), .val (.int p4), .val (.int lo), .val (.int hi), .val (.int (0 : Int32)), .val (.ref b12), .val (.ref b14), .val (.int (own_n1_0 lo lo)), .val (.int (own_n1_0 hi lo)), .val (.int (own_n1_0 p3 lo)), .val (.int (0 : Int32)), .unset] [(.int (1 : Int32))]))
          refine own_st (fun _ k => XS.goto X20.here hx rfl (pc0 := 148) (pc' := 152) rfl (hb hby at_148) (by decide) (by decide) k) ?_
          show own_Go p e below _ (T20.setTop (mkF m 152 #[.val (.int p0), .val (.int p1), .val (.int p2), .val (.int p3), .val (.int p4), .val (.int lo), .val (.int hi), .val (.int (0 : Int32)), .val (.ref b12), .val (.ref b14), .val (.int (own_n1_0 lo lo)), .val (.int (own_n1_0 hi lo)), .val (.int (own_n1_0 p3 lo)), .val (.int (0 : Int32)), .unset] [(.int (1 : Int32))]))
          refine own_st (fun _ k => XS.istore X20.here hx rfl (hb hby at_152) rfl (l' := #[.val (.int p0), .val (.int p1), .val (.int p2), .val (.int p3), .val (.int p4), .val (.int lo), .val (.int hi), .val (.int (0 : Int32)), .val (.ref b12), .val (.ref b14), .val (.int (own_n1_0 lo lo)), .val (.int (own_n1_0 hi lo)), .val (.int (own_n1_0 p3 lo)), .val (.int (0 : Int32)), .val (.int (1 : Int32))]) rfl k) ?_
          show own_Go p e below _ (T20.setTop (mkF m 154 #[.val (.int p0), .val (.int p1), .val (.int p2), .val (.int p3), .val (.int p4), .val (.int lo), .val (.int hi), .val (.int (0 : Int32)), .val (.ref b12), .val (.ref b14), .val (.int (own_n1_0 lo lo)), .val (.int (own_n1_0 hi lo)), .val (.int (own_n1_0 p3 lo)), .val (.int (0 : Int32)), .val (.int (1 : Int32))] []))
          refine own_st (fun _ k => XS.iload X20.here hx rfl (hb hby at_154) rfl k) ?_
          show own_Go p e below _ (T20.setTop (mkF m 156 #[.val (.int p0), .val (.int p1), .val (.int p2), .val (.int p3), .val (.int p4), .val (.int lo), .val (.int hi), .val (.int (0 : Int32)), .val (.ref b12), .val (.ref b14), .val (.int (own_n1_0 lo lo)), .val (.int (own_n1_0 hi lo)), .val (.int (own_n1_0 p3 lo)), .val (.int (0 : Int32)), .val (.int (1 : Int32))] [(.int (own_n1_0 lo lo))]))
          refine own_st (fun _ k => XS.ifNo X20.here hx rfl (hb hby at_156) rfl ((own_i0 _ _).trans (own_no ((own_ne0 (own_y1 rfl)) : ¬ ((own_n1_0 lo lo) = (0 : Int32))))) k) ?_
          show own_Go p e below _ (T20.setTop (mkF m 159 #[.val (.int p0), .val (.int p1), .val (.int p2), .val (.int p3), .val (.int p4), .val (.int lo), .val (.int hi), .val (.int (0 : Int32)), .val (.ref b12), .val (.ref b14), .val (.int (own_n1_0 lo lo)), .val (.int (own_n1_0 hi lo)), .val (.int (own_n1_0 p3 lo)), .val (.int (0 : Int32)), .val (.int (1 : Int32))] []))
          refine own_st (fun _ k => XS.iload X20.here hx rfl (hb hby at_159) rfl k) ?_
          show own_Go p e below _ (T20.setTop (mkF m 161 #[.val (.int p0), .val (.int p1), .val (.int p2), .val (.int p3), .val (.int p4), .val (.int lo), .val (.int hi), .val (.int (0 : Int32)), .val (.ref b12), .val (.ref b14), .val (.int (own_n1_0 lo lo)), .val (.int (own_n1_0 hi lo)), .val (.int (own_n1_0 p3 lo)), .val (.int (0 : Int32)), .val (.int (1 : Int32))] [(.int (own_n1_0 hi lo))]))
          refine own_st (fun _ k => XS.iload X20.here hx rfl (hb hby at_161) rfl k) ?_
          show own_Go p e below _ (T20.setTop (mkF m 163 #[.val (.int p0), .val (.int p1), .val (.int p2), .val (.int p3), .val (.int p4), .val (.int lo), .val (.int hi), .val (.int (0 : Int32)), .val (.ref b12), .val (.ref b14), .val (.int (own_n1_0 lo lo)), .val (.int (own_n1_0 hi lo)), .val (.int (own_n1_0 p3 lo)), .val (.int (0 : Int32)), .val (.int (1 : Int32))] [(.int (0 : Int32)), (.int (own_n1_0 hi lo))]))
          refine own_st (fun _ k => XS.icmpNo X20.here hx rfl (hb hby at_163) rfl ((own_i2 _ _ _).trans (own_nyes ((own_z1 hc120) : (own_n1_0 hi lo) = (0 : Int32)))) k) ?_
          show own_Go p e below _ (T20.setTop (mkF m 166 #[.val (.int p0), .val (.int p1), .val (.int p2), .val (.int p3), .val (.int p4), .val (.int lo), .val (.int hi), .val (.int (0 : Int32)), .val (.ref b12), .val (.ref b14), .val (.int (own_n1_0 lo lo)), .val (.int (own_n1_0 hi lo)), .val (.int (own_n1_0 p3 lo)), .val (.int (0 : Int32)), .val (.int (1 : Int32))] []))
          refine own_st (fun _ k => XS.iload X20.here hx rfl (hb hby at_166) rfl k) ?_
          show own_Go p e below _ (T20.setTop (mkF m 168 #[.val (.int p0), .val (.int p1), .val (.int p2), .val (.int p3), .val (.int p4), .val (.int lo), .val (.int hi), .val (.int (0 : Int32)), .val (.ref b12), .val (.ref b14), .val (.int (own_n1_0 lo lo)), .val (.int (own_n1_0 hi lo)), .val (.int (own_n1_0 p3 lo)), .val (.int (0 : Int32)), .val (.int (1 : Int32))] [(.int (own_n1_0 p3 lo))]))
          refine own_st (fun _ k => XS.iload X20.here hx rfl (hb hby at_168) rfl k) ?_
          show own_Go p e below _ (T20.setTop (mkF m 170 #[.val (.int p0), .val (.int p1), .val (.int p2), .val (.int p3), .val (.int p4), .val (.int lo), .val (.int hi), .val (.int (0 : Int32)), .val (.ref b12), .val (.ref b14), .val (.int (own_n1_0 lo lo)), .val (.int (own_n1_0 hi lo)), .val (.int (own_n1_0 p3 lo)), .val (.int (0 : Int32)), .val (.int (1 : Int32))] [(.int (1 : Int32)), (.int (own_n1_0 p3 lo))]))
          refine own_st (fun _ k => XS.icmpNo X20.here hx rfl (hb hby at_170) rfl ((own_i2 _ _ _).trans (own_nyes ((own_y1 hc133) : (own_n1_0 p3 lo) = (1 : Int32)))) k) ?_
          show own_Go p e below _ (T20.setTop (mkF m 173 #[.val (.int p0), .val (.int p1), .val (.int p2), .val (.int p3), .val (.int p4), .val (.int lo), .val (.int hi), .val (.int (0 : Int32)), .val (.ref b12), .val (.ref b14), .val (.int (own_n1_0 lo lo)), .val (.int (own_n1_0 hi lo)), .val (.int (own_n1_0 p3 lo)), .val (.int (0 : Int32)), .val (.int (1 : Int32))] []))
          refine own_st (fun _ k => XS.iconst X20.here hx rfl (hb hby at_173) k) ?_
          show own_Go p e below _ (T20.setTop (mkF m 174 #[.val (.int p0), .val (.int p1), .val (.int p2), .val (.int p3), .val (.int p4), .val (.int lo), .val (.int hi), .val (.int (0 : Int32)), .val (.ref b12), .val (.ref b14), .val (.int (own_n1_0 lo lo)), .val (.int (own_n1_0 hi lo)), .val (.int (own_n1_0 p3 lo)), .val (.int (0 : Int32)), .val (.int (1 : Int32))] [(.int (1 : Int32))]))
          refine own_st (fun _ k => XS.goto X20.here hx rfl (pc0 := 174) (pc' := 178) rfl (hb hby at_174) (by decide) (by decide) k) ?_
          show own_Go p e below _ (T20.setTop (mkF m 178 #[.val (.int p0), .val (.int p1), .val (.int p2), .val (.int p3), .val (.int p4), .val (.int lo), .val (.int hi), .val (.int (0 : Int32)), .val (.ref b12), .val (.ref b14), .val (.int (own_n1_0 lo lo)), .val (.int (own_n1_0 hi lo)), .val (.int (own_n1_0 p3 lo)), .val (.int (0 : Int32)), .val (.int (1 : Int32))] [(.int (1 : Int32))]))
          exact own_retZ X20 hx hlk hret rfl (hb hby at_178) ⟨rfl, N0⟩ (by decide) (by decide)
        · refine own_st (fun _ k => XS.icmpNo X20.here hx rfl (hb hby at_133) rfl ((own_i2 _ _ _).trans (own_no (hc133 : ¬ (p3 = lo)))) k) ?_
          show own_Go p e below _ (T20.setTop (mkF m 136 #[.val (.int p0), .val (.int p1), .val (.int p2), .val (.int p3), .val (.int p4), .val (.int lo), .val (.int hi), .val (.int (0 : Int32)), .val (.ref b12), .val (.ref b14), .val (.int (own_n1_0 lo lo)), .val (.int (own_n1_0 hi lo)), .val (.int (own_n1_0 p3 lo)), .val (.int (0 : Int32)), .unset] []))
          refine own_st (fun _ k => XS.iload X20.here hx rfl (hb hby at_136) rfl k) ?_
          show own_Go p e below _ (T20.setTop (mkF m 138 #[.val (.int p0), .val (.int p1), .val (.int p2), .val (.int p3), .val (.int p4), .val (.int lo), .val (.int hi), .val (.int (0 : Int32)), .val (.ref b12), .val (.ref b14), .val (.int (own_n1_0 lo lo)), .val (.int (own_n1_0 hi lo)), .val (.int (own_n1_0 p3 lo)), .val (.int (0 : Int32)), .unset] [(.int (0 : Int32))]))
          refine own_st (fun _ k => XS.ifYes X20.here hx rfl (pc0 := 138) (pc' := 151) rfl (hb hby at_138) rfl ((own_i0 _ _).trans (own_yes ((by decide : (0 : Int32) = (0 : Int32)) : (0 : Int32) = (0 : Int32)))) (by decide) (by decide) k) ?_
          show own_Go p e below _ (T20.setTop (mkF m 151 #[.val (.int p0), .val (.int p1), .val (.int p2), .val (.int p3), .val (.int p4), .val (.int lo), .val (.int hi), .val (.int (0 : Int32)), .val (.ref b12), .val (.ref b14), .val (.int (own_n1_0 lo lo)), .val (.int (own_n1_0 hi lo)), .val (.int (own_n1_0 p3 lo)), .val (.int (0 : Int32)), .unset] []))
          refine own_st (fun _ k => XS.iconst X20.here hx rfl (hb hby at_151) k) ?_
          show own_Go p e below _ (T20.setTop (mkF m 152 #[.val (.int p0), .val (.int p1), .val (.int p2), .val (.int p3), .val (.int p4), .val (.int lo), .val (.int hi), .val (.int (0 : Int32)), .val (.ref b12), .val (.ref b14), .val (.int (own_n1_0 lo lo)), .val (.int (own_n1_0 hi lo)), .val (.int (own_n1_0 p3 lo)), .val (.int (0 : Int32)), .unset] [(.int (0 : Int32))]))
          refine own_st (fun _ k => XS.istore X20.here hx rfl (hb hby at_152) rfl (l' := #[.val (.int p0), .val (.int p1), .val (.int p2), .val (.int p3), .val (.int p4), .val (.int lo), .val (.int hi), .val (.int (0 : Int32)), .val (.ref b12), .val (.ref b14), .val (.int (own_n1_0 lo lo)), .val (.int (own_n1_0 hi lo)), .val (.int (own_n1_0 p3 lo)), .val (.int (0 : Int32)), .val (.int (0 : Int32))]) rfl k) ?_
          show own_Go p e below _ (T20.setTop (mkF m 154 #[.val (.int p0), .val (.int p1), .val (.int p2), .val (.int p3), .val (.int p4), .val (.int lo), .val (.int hi), .val (.int (0 : Int32)), .val (.ref b12), .val (.ref b14), .val (.int (own_n1_0 lo lo)), .val (.int (own_n1_0 hi lo)), .val (.int (own_n1_0 p3 lo)), .val (.int (0 : Int32)), .val (.int (0 : Int32))] []))
          refine own_st (fun _ k => XS.iload X20.here hx rfl (hb hby at_154) rfl k) ?_
          show own_Go p e below _ (T20.setTop (mkF m 156 #[.val (.int p0), .val (.int p1), .val (.int p2), .val (.int p3), .val (.int p4), .val (.int lo), .val (.int hi), .val (.int (0 : Int32)), .val (.ref b12), .val (.ref b14), .val (.int (own_n1_0 lo lo)), .val (.int (own_n1_0 hi lo)), .val (.int (own_n1_0 p3 lo)), .val (.int (0 : Int32)), .val (.int (0 : Int32))] [(.int (own_n1_0 lo lo))]))
          refine own_st (fun _ k => XS.ifNo X20.here hx rfl (hb hby at_156) rfl ((own_i0 _ _).trans (own_no ((own_ne0 (own_y1 rfl)) : ¬ ((own_n1_0 lo lo) = (0 : Int32))))) k) ?_
          show own_Go p e below _ (T20.setTop (mkF m 159 #[.val (.int p0), .val (.int p1), .val (.int p2), .val (.int p3), .val (.int p4), .val (.int lo), .val (.int hi), .val (.int (0 : Int32)), .val (.ref b12), .val (.ref b14), .val (.int (own_n1_0 lo lo)), .val (.int (own_n1_0 hi lo)), .val (.int (own_n1_0 p3 lo)), .val (.int (0 : Int32)), .val (.int (0 : Int32))] []))
          refine own_st (fun _ k => XS.iload X20.here hx rfl (hb hby at_159) rfl k) ?_
          show own_Go p e below _ (T20.setTop (mkF m 161 #[.val (.int p0), .val (.int p1), .val (.int p2), .val (.int p3), .val (.int p4), .val (.int lo), .val (.int hi), .val (.int (0 : Int32)), .val (.ref b12), .val (.ref b14), .val (.int (own_n1_0 lo lo)), .val (.int (own_n1_0 hi lo)), .val (.int (own_n1_0 p3 lo)), .val (.int (0 : Int32)), .val (.int (0 : Int32))] [(.int (own_n1_0 hi lo))]))
          refine own_st (fun _ k => XS.iload X20.here hx rfl (hb hby at_161) rfl k) ?_
          show own_Go p e below _ (T20.setTop (mkF m 163 #[.val (.int p0), .val (.int p1), .val (.int p2), .val (.int p3), .val (.int p4), .val (.int lo), .val (.int hi), .val (.int (0 : Int32)), .val (.ref b12), .val (.ref b14), .val (.int (own_n1_0 lo lo)), .val (.int (own_n1_0 hi lo)), .val (.int (own_n1_0 p3 lo)), .val (.int (0 : Int32)), .val (.int (0 : Int32))] [(.int (0 : Int32)), (.int (own_n1_0 hi lo))]))
          refine own_st (fun _ k => XS.icmpNo X20.here hx rfl (hb hby at_163) rfl ((own_i2 _ _ _).trans (own_nyes ((own_z1 hc120) : (own_n1_0 hi lo) = (0 : Int32)))) k) ?_
          show own_Go p e below _ (T20.setTop (mkF m 166 #[.val (.int p0), .val (.int p1), .val (.int p2), .val (.int p3), .val (.int p4), .val (.int lo), .val (.int hi), .val (.int (0 : Int32)), .val (.ref b12), .val (.ref b14), .val (.int (own_n1_0 lo lo)), .val (.int (own_n1_0 hi lo)), .val (.int (own_n1_0 p3 lo)), .val (.int (0 : Int32)), .val (.int (0 : Int32))] []))
          refine own_st (fun _ k => XS.iload X20.here hx rfl (hb hby at_166) rfl k) ?_
          show own_Go p e below _ (T20.setTop (mkF m 168 #[.val (.int p0), .val (.int p1), .val (.int p2), .val (.int p3), .val (.int p4), .val (.int lo), .val (.int hi), .val (.int (0 : Int32)), .val (.ref b12), .val (.ref b14), .val (.int (own_n1_0 lo lo)), .val (.int (own_n1_0 hi lo)), .val (.int (own_n1_0 p3 lo)), .val (.int (0 : Int32)), .val (.int (0 : Int32))] [(.int (own_n1_0 p3 lo))]))
          refine own_st (fun _ k => XS.iload X20.here hx rfl (hb hby at_168) rfl k) ?_
          show own_Go p e below _ (T20.setTop (mkF m 170 #[.val (.int p0), .val (.int p1), .val (.int p2), .val (.int p3), .val (.int p4), .val (.int lo), .val (.int hi), .val (.int (0 : Int32)), .val (.ref b12), .val (.ref b14), .val (.int (own_n1_0 lo lo)), .val (.int (own_n1_0 hi lo)), .val (.int (own_n1_0 p3 lo)), .val (.int (0 : Int32)), .val (.int (0 : Int32))] [(.int (0 : Int32)), (.int (own_n1_0 p3 lo))]))
          refine own_st (fun _ k => XS.icmpNo X20.here hx rfl (hb hby at_170) rfl ((own_i2 _ _ _).trans (own_nyes ((own_z1 hc133) : (own_n1_0 p3 lo) = (0 : Int32)))) k) ?_
          show own_Go p e below _ (T20.setTop (mkF m 173 #[.val (.int p0), .val (.int p1), .val (.int p2), .val (.int p3), .val (.int p4), .val (.int lo), .val (.int hi), .val (.int (0 : Int32)), .val (.ref b12), .val (.ref b14), .val (.int (own_n1_0 lo lo)), .val (.int (own_n1_0 hi lo)), .val (.int (own_n1_0 p3 lo)), .val (.int (0 : Int32)), .val (.int (0 : Int32))] []))
          refine own_st (fun _ k => XS.iconst X20.here hx rfl (hb hby at_173) k) ?_
          show own_Go p e below _ (T20.setTop (mkF m 174 #[.val (.int p0), .val (.int p1), .val (.int p2), .val (.int p3), .val (.int p4), .val (.int lo), .val (.int hi), .val (.int (0 : Int32)), .val (.ref b12), .val (.ref b14), .val (.int (own_n1_0 lo lo)), .val (.int (own_n1_0 hi lo)), .val (.int (own_n1_0 p3 lo)), .val (.int (0 : Int32)), .val (.int (0 : Int32))] [(.int (1 : Int32))]))
          refine own_st (fun _ k => XS.goto X20.here hx rfl (pc0 := 174) (pc' := 178) rfl (hb hby at_174) (by decide) (by decide) k) ?_
          show own_Go p e below _ (T20.setTop (mkF m 178 #[.val (.int p0), .val (.int p1), .val (.int p2), .val (.int p3), .val (.int p4), .val (.int lo), .val (.int hi), .val (.int (0 : Int32)), .val (.ref b12), .val (.ref b14), .val (.int (own_n1_0 lo lo)), .val (.int (own_n1_0 hi lo)), .val (.int (own_n1_0 p3 lo)), .val (.int (0 : Int32)), .val (.int (0 : Int32))] [(.int (1 : Int32))]))
          exact own_retZ X20 hx hlk hret rfl (hb hby at_178) ⟨rfl, N0⟩ (by decide) (by decide)
    · refine own_st (fun _ k => XS.icmpNo X2.here hx rfl (hb hby at_25) rfl ((own_i2 _ _ _).trans (own_no (hc25 : ¬ (lo = hi)))) k) ?_
      show own_Go p e below _ (T2.setTop (mkF m 28 #[.val (.int p0), .val (.int p1), .val (.int p2), .val (.int p3), .val (.int p4), .val (.int lo), .val (.int hi), .unset, .unset, .unset, .unset, .unset, .unset, .unset, .unset] []))
      refine own_st (fun _ k => XS.iconst X2.here hx rfl (hb hby at_28) k) ?_
      show own_Go p e below _ (T2.setTop (mkF m 29 #[.val (.int p0), .val (.int p1), .val (.int p2), .val (.int p3), .val (.int p4), .val (.int lo), .val (.int hi), .unset, .unset, .unset, .unset, .unset, .unset, .unset, .unset] [(.int (1 : Int32))]))
      refine own_st (fun _ k => XS.goto X2.here hx rfl (pc0 := 29) (pc' := 33) rfl (hb hby at_29) (by decide) (by decide) k) ?_
      show own_Go p e below _ (T2.setTop (mkF m 33 #[.val (.int p0), .val (.int p1), .val (.int p2), .val (.int p3), .val (.int p4), .val (.int lo), .val (.int hi), .unset, .unset, .unset, .unset, .unset, .unset, .unset, .unset] [(.int (1 : Int32))]))
      refine own_st (fun _ k => XS.istore X2.here hx rfl (hb hby at_33) rfl (l' := #[.val (.int p0), .val (.int p1), .val (.int p2), .val (.int p3), .val (.int p4), .val (.int lo), .val (.int hi), .val (.int (1 : Int32)), .unset, .unset, .unset, .unset, .unset, .unset, .unset]) rfl k) ?_
      show own_Go p e below _ (T2.setTop (mkF m 35 #[.val (.int p0), .val (.int p1), .val (.int p2), .val (.int p3), .val (.int p4), .val (.int lo), .val (.int hi), .val (.int (1 : Int32)), .unset, .unset, .unset, .unset, .unset, .unset, .unset] []))
      refine own_st (fun _ k => XS.iload X2.here hx rfl (hb hby at_35) rfl k) ?_
      show own_Go p e below _ (T2.setTop (mkF m 37 #[.val (.int p0), .val (.int p1), .val (.int p2), .val (.int p3), .val (.int p4), .val (.int lo), .val (.int hi), .val (.int (1 : Int32)), .unset, .unset, .unset, .unset, .unset, .unset, .unset] [(.int (1 : Int32))]))
      refine own_st (fun _ k => XS.ifNo X2.here hx rfl (hb hby at_37) rfl ((own_i0 _ _).trans (own_no ((by decide : ¬ ((1 : Int32) = (0 : Int32))) : ¬ ((1 : Int32) = (0 : Int32))))) k) ?_
      show own_Go p e below _ (T2.setTop (mkF m 40 #[.val (.int p0), .val (.int p1), .val (.int p2), .val (.int p3), .val (.int p4), .val (.int lo), .val (.int hi), .val (.int (1 : Int32)), .unset, .unset, .unset, .unset, .unset, .unset, .unset] []))
      refine own_st (fun _ k => XS.iconst X2.here hx rfl (hb hby at_40) k) ?_
      show own_Go p e below _ (T2.setTop (mkF m 41 #[.val (.int p0), .val (.int p1), .val (.int p2), .val (.int p3), .val (.int p4), .val (.int lo), .val (.int hi), .val (.int (1 : Int32)), .unset, .unset, .unset, .unset, .unset, .unset, .unset] [(.int (2 : Int32))]))
      obtain ⟨T21, h21, k21, X21, e21, E21, A21, st21⟩ := newP X2 hx hZ (hw _ (List.mem_of_getElem? (i := 7) rfl)) e2 (g := (mkF m 41 #[.val (.int p0), .val (.int p1), .val (.int p2), .val (.int p3), .val (.int p4), .val (.int lo), .val (.int hi), .val (.int (1 : Int32)), .unset, .unset, .unset, .unset, .unset, .unset, .unset] [(.int (2 : Int32))])) rfl (hb hby at_41) rfl (by decide) (cap := 2) (by decide) (by decide) (by decide) (by decide)
      refine own_st st21 ?_
      obtain ⟨b21, g21⟩ : ∃ z, z = h0.size := ⟨_, rfl⟩
      rw [← g21] at A21 ⊢
      have g_b21 : n0 ≤ b21 := Nat.le_trans Z0 (Nat.le_of_eq g21.symm)
      replace Z0 := Nat.le_trans Z0 E21.1
      have V_b21 : Arv Z h21 b21 k21 .int (2 : Int32) [(.int (0 : Int32)), (.int (0 : Int32))] (.int (0 : Int32)) := (Arv.new A21 (by decide)).pad (pad_rep [] (.int (0 : Int32)) 2)
      show own_Go p e below _ (T21.setTop (mkF m 43 #[.val (.int p0), .val (.int p1), .val (.int p2), .val (.int p3), .val (.int p4), .val (.int lo), .val (.int hi), .val (.int (1 : Int32)), .unset, .unset, .unset, .unset, .unset, .unset, .unset] [(.ref b21)]))
      refine own_st (fun _ k => XS.dup X21.here hx rfl (hb hby at_43) rfl rfl k) ?_
      show own_Go p e below _ (T21.setTop (mkF m 44 #[.val (.int p0), .val (.int p1), .val (.int p2), .val (.int p3), .val (.int p4), .val (.int lo), .val (.int hi), .val (.int (1 : Int32)), .unset, .unset, .unset, .unset, .unset, .unset, .unset] [(.ref b21), (.ref b21)]))
      refine own_st (fun _ k => XS.iconst X21.here hx rfl (hb hby at_44) k) ?_
      show own_Go p e below _ (T21.setTop (mkF m 45 #[.val (.int p0), .val (.int p1), .val (.int p2), .val (.int p3), .val (.int p4), .val (.int lo), .val (.int hi), .val (.int (1 : Int32)), .unset, .unset, .unset, .unset, .unset, .unset, .unset] [(.int (0 : Int32)), (.ref b21), (.ref b21)]))
      refine own_st (fun _ k => XS.iload X21.here hx rfl (hb hby at_45) rfl k) ?_
      show own_Go p e below _ (T21.setTop (mkF m 47 #[.val (.int p0), .val (.int p1), .val (.int p2), .val (.int p3), .val (.int p4), .val (.int lo), .val (.int hi), .val (.int (1 : Int32)), .unset, .unset, .unset, .unset, .unset, .unset, .unset] [(.int lo), (.int (0 : Int32)), (.ref b21), (.ref b21)]))
      obtain ⟨cl22, Ar22, qc22, S22, M22, H22, G22⟩ := V_b21
      obtain ⟨T22, h22, X22, e22, W22, st22⟩ := stI X21 hx hZ e21 Ar22 (j := (0 : Int32)) (inb_of S22 ⟨by decide, by decide⟩) (g := (mkF m 47 #[.val (.int p0), .val (.int p1), .val (.int p2), .val (.int p3), .val (.int p4), .val (.int lo), .val (.int hi), .val (.int (1 : Int32)), .unset, .unset, .unset, .unset, .unset, .unset, .unset] [(.int lo), (.int (0 : Int32)), (.ref b21), (.ref b21)])) rfl rfl (hb hby at_47)
      refine own_st st22 ?_
      replace Z0 := Nat.le_trans Z0 (Nat.le_of_eq W22.size.symm)
      replace N0 := Fr.snoc X22 N0 g_b21
      have V_b21 : Arv Z h22 b21 k21 .int (2 : Int32) [(.int lo), (.int (0 : Int32))] (.int (0 : Int32)) := Arv.set Ar22 qc22 S22 M22 H22 G22 rfl W22 0 rfl (Nat.le_of_ble_eq_true rfl)
      show own_Go p e below _ (T22.setTop (mkF m 48 #[.val (.int p0), .val (.int p1), .val (.int p2), .val (.int p3), .val (.int p4), .val (.int lo), .val (.int hi), .val (.int (1 : Int32)), .unset, .unset, .unset, .unset, .unset, .unset, .unset] [(.ref b21)]))
      refine own_st (fun _ k => XS.dup X22.here hx rfl (hb hby at_48) rfl rfl k) ?_
      show own_Go p e below _ (T22.setTop (mkF m 49 #[.val (.int p0), .val (.int p1), .val (.int p2), .val (.int p3), .val (.int p4), .val (.int lo), .val (.int hi), .val (.int (1 : Int32)), .unset, .unset, .unset, .unset, .unset, .unset, .unset] [(.ref b21), (.ref b21)]))
      refine own_st (fun _ k => XS.iconst X22.here hx rfl (hb hby at_49) k) ?_
      show own_Go p e below _ (T22.setTop (mkF m 50 #[.val (.int p0), .val (.int p1), .val (.int p2), .val (.int p3), .val (.int p4), .val (.int lo), .val (.int hi), .val (.int (1 : Int32)), .unset, .unset, .unset, .unset, .unset, .unset, .unset] [(.int (1 : Int32)), (.ref b21), (.ref b21)]))
      refine own_st (fun _ k => XS.iload X22.here hx rfl (hb hby at_50) rfl k) ?_
      show own_Go p e below _ (T22.setTop (mkF m 52 #[.val (.int p0), .val (.int p1), .val (.int p2), .val (.int p3), .val (.int p4), .val (.int lo), .val (.int hi), .val (.int (1 : Int32)), .unset, .unset, .unset, .unset, .unset, .unset, .unset] [(.int hi), (.int (1 : Int32)), (.ref b21), (.ref b21)]))
      obtain ⟨cl23, Ar23, qc23, S23, M23, H23, G23⟩ := V_b21
      obtain ⟨T23, h23, X23, e23, W23, st23⟩ := stI X22 hx hZ e22 Ar23 (j := (1 : Int32)) (inb_of S23 ⟨by decide, by decide⟩) (g := (mkF m 52 #[.val (.int p0), .val (.int p1), .val (.int p2), .val (.int p3), .val (.int p4), .val (.int lo), .val (.int hi), .val (.int (1 : Int32)), .unset, .unset, .unset, .unset, .unset, .unset, .unset] [(.int hi), (.int (1 : Int32)), (.ref b21), (.ref b21)])) rfl rfl (hb hby at_52)
      refine own_st st23 ?_
      replace Z0 := Nat.le_trans Z0 (Nat.le_of_eq W23.size.symm)
      replace N0 := Fr.snoc X23 N0 g_b21
      have V_b21 : Arv Z h23 b21 k21 .int (2 : Int32) [(.int lo), (.int hi)] (.int (0 : Int32)) := Arv.set Ar23 qc23 S23 M23 H23 G23 rfl W23 1 rfl (Nat.le_of_ble_eq_true rfl)
      show own_Go p e below _ (T23.setTop (mkF m 53 #[.val (.int p0), .val (.int p1), .val (.int p2), .val (.int p3), .val (.int p4), .val (.int lo), .val (.int hi), .val (.int (1 : Int32)), .unset, .unset, .unset, .unset, .unset, .unset, .unset] [(.ref b21)]))
      refine own_st (fun _ k => XS.goto X23.here hx rfl (pc0 := 53) (pc' := 64) rfl (hb hby at_53) (by decide) (by decide) k) ?_
      show own_Go p e below _ (T23.setTop (mkF m 64 #[.val (.int p0), .val (.int p1), .val (.int p2), .val (.int p3), .val (.int p4), .val (.int lo), .val (.int hi), .val (.int (1 : Int32)), .unset, .unset, .unset, .unset, .unset, .unset, .unset] [(.ref b21)]))
      refine own_st (fun _ k => XS.astore X23.here hx rfl (hb hby at_64) rfl rfl (l' := #[.val (.int p0), .val (.int p1), .val (.int p2), .val (.int p3), .val (.int p4), .val (.int lo), .val (.int hi), .val (.int (1 : Int32)), .val (.ref b21), .unset, .unset, .unset, .unset, .unset, .unset]) rfl k) ?_
      show own_Go p e below _ (T23.setTop (mkF m 66 #[.val (.int p0), .val (.int p1), .val (.int p2), .val (.int p3), .val (.int p4), .val (.int lo), .val (.int hi), .val (.int (1 : Int32)), .val (.ref b21), .unset, .unset, .unset, .unset, .unset, .unset] []))
      obtain ⟨T24, h24, X24, e24, E24, A24, D24, -, st24⟩ := newO X23 hx hZ hown (hw _ (List.mem_of_getElem? (i := 8) rfl)) (hw _ (List.mem_of_getElem? (i := 9) rfl)) (hw _ (List.mem_of_getElem? (i := 10) rfl)) e23 (g := (mkF m 66 #[.val (.int p0), .val (.int p1), .val (.int p2), .val (.int p3), .val (.int p4), .val (.int lo), .val (.int hi), .val (.int (1 : Int32)), .val (.ref b21), .unset, .unset, .unset, .unset, .unset, .unset] [])) rfl (hb hby at_66) (by decide) (by decide)
      refine own_st st24 ?_
      obtain ⟨b24, g24⟩ : ∃ z, z = h23.size := ⟨_, rfl⟩
      rw [← g24] at A24 D24 ⊢
      have g_b24 : n0 ≤ b24 := Nat.le_trans Z0 (Nat.le_of_eq g24.symm)
      have ne_b21_b24 : b21 ≠ b24 := Nat.ne_of_lt (Nat.lt_of_lt_of_le V_b21.lt (Nat.le_of_eq g24.symm))
      have ne_b24_b21 : b24 ≠ b21 := Ne.symm ne_b21_b24
      replace V_b21 := V_b21.ext E24
      replace Z0 := Nat.le_trans Z0 E24.1
      have F_sums_b24 : Fld Z h24 b24 "com/example/accordant/accordant/AliveTerms$Group" "sums" "[J" .null := D24 (Or.inr (hw _ (List.mem_of_getElem? (i := 20) rfl))) (ty := (.array .long)) (by decide)
      have F_party_b24 : Fld Z h24 b24 "com/example/accordant/accordant/AliveTerms$Group" "party" "I" (.int (0 : Int32)) := D24 (Or.inr (hw _ (List.mem_of_getElem? (i := 22) rfl))) (ty := .int) (by decide)
      have F_issues_b24 : Fld Z h24 b24 "com/example/accordant/accordant/AliveTerms$Group" "issues" "[I" .null := D24 (Or.inr (hw _ (List.mem_of_getElem? (i := 24) rfl))) (ty := (.array .int)) (by decide)
      have F_terms_b24 : Fld Z h24 b24 "com/example/accordant/accordant/AliveTerms$Group" "terms" "[I" .null := D24 (Or.inr (hw _ (List.mem_of_getElem? (i := 26) rfl))) (ty := (.array .int)) (by decide)
      show own_Go p e below _ (T24.setTop (mkF m 69 #[.val (.int p0), .val (.int p1), .val (.int p2), .val (.int p3), .val (.int p4), .val (.int lo), .val (.int hi), .val (.int (1 : Int32)), .val (.ref b21), .unset, .unset, .unset, .unset, .unset, .unset] [(.ref b24)]))
      refine own_st (fun _ k => XS.dup X24.here hx rfl (hb hby at_69) rfl rfl k) ?_
      show own_Go p e below _ (T24.setTop (mkF m 70 #[.val (.int p0), .val (.int p1), .val (.int p2), .val (.int p3), .val (.int p4), .val (.int lo), .val (.int hi), .val (.int (1 : Int32)), .val (.ref b21), .unset, .unset, .unset, .unset, .unset, .unset] [(.ref b24), (.ref b24)]))
      refine own_st (fun _ k => XS.iloadN X24.here hx rfl (hb hby at_70) rfl k) ?_
      show own_Go p e below _ (T24.setTop (mkF m 71 #[.val (.int p0), .val (.int p1), .val (.int p2), .val (.int p3), .val (.int p4), .val (.int lo), .val (.int hi), .val (.int (1 : Int32)), .val (.ref b21), .unset, .unset, .unset, .unset, .unset, .unset] [(.int p0), (.ref b24), (.ref b24)]))
      refine own_st (fun _ k => XS.aload X24.here hx rfl (hb hby at_71) rfl rfl k) ?_
      show own_Go p e below _ (T24.setTop (mkF m 73 #[.val (.int p0), .val (.int p1), .val (.int p2), .val (.int p3), .val (.int p4), .val (.int lo), .val (.int hi), .val (.int (1 : Int32)), .val (.ref b21), .unset, .unset, .unset, .unset, .unset, .unset] [(.ref b21), (.int p0), (.ref b24), (.ref b24)]))
      refine own_st (fun _ k => XS.iconst X24.here hx rfl (hb hby at_73) k) ?_
      show own_Go p e below _ (T24.setTop (mkF m 74 #[.val (.int p0), .val (.int p1), .val (.int p2), .val (.int p3), .val (.int p4), .val (.int lo), .val (.int hi), .val (.int (1 : Int32)), .val (.ref b21), .unset, .unset, .unset, .unset, .unset, .unset] [(.int (1 : Int32)), (.ref b21), (.int p0), (.ref b24), (.ref b24)]))
      obtain ⟨T25, h25, k25, X25, e25, E25, A25, st25⟩ := newP X24 hx hZ (hw _ (List.mem_of_getElem? (i := 7) rfl)) e24 (g := (mkF m 74 #[.val (.int p0), .val (.int p1), .val (.int p2), .val (.int p3), .val (.int p4), .val (.int lo), .val (.int hi), .val (.int (1 : Int32)), .val (.ref b21), .unset, .unset, .unset, .unset, .unset, .unset] [(.int (1 : Int32)), (.ref b21), (.int p0), (.ref b24), (.ref b24)])) rfl (hb hby at_74) rfl (by decide) (cap := 1) (by decide) (by decide) (by decide) (by decide)
      refine own_st st25 ?_
      obtain ⟨b25, g25⟩ : ∃ z, z = h24.size := ⟨_, rfl⟩
      rw [← g25] at A25 ⊢
      have g_b25 : n0 ≤ b25 := Nat.le_trans Z0 (Nat.le_of_eq g25.symm)
      have ne_b21_b25 : b21 ≠ b25 := Nat.ne_of_lt (Nat.lt_of_lt_of_le V_b21.lt (Nat.le_of_eq g25.symm))
      have ne_b25_b21 : b25 ≠ b21 := Ne.symm ne_b21_b25
      have ne_b24_b25 : b24 ≠ b25 := Nat.ne_of_lt (Nat.lt_of_lt_of_le A24.lt (Nat.le_of_eq g25.symm))
      have ne_b25_b24 : b25 ≠ b24 := Ne.symm ne_b24_b25
      replace V_b21 := V_b21.ext E25
      replace A24 := A24.ext E25
      replace F_sums_b24 := F_sums_b24.ext E25
      replace F_party_b24 := F_party_b24.ext E25
      replace F_issues_b24 := F_issues_b24.ext E25
      replace F_terms_b24 := F_terms_b24.ext E25
      replace Z0 := Nat.le_trans Z0 E25.1
      have V_b25 : Arv Z h25 b25 k25 .int (1 : Int32) [(.int (0 : Int32))] (.int (0 : Int32)) := (Arv.new A25 (by decide)).pad (pad_rep [] (.int (0 : Int32)) 1)
      show own_Go p e below _ (T25.setTop (mkF m 76 #[.val (.int p0), .val (.int p1), .val (.int p2), .val (.int p3), .val (.int p4), .val (.int lo), .val (.int hi), .val (.int (1 : Int32)), .val (.ref b21), .unset, .unset, .unset, .unset, .unset, .unset] [(.ref b25), (.ref b21), (.int p0), (.ref b24), (.ref b24)]))
      refine own_st (fun _ k => XS.dup X25.here hx rfl (hb hby at_76) rfl rfl k) ?_
      show own_Go p e below _ (T25.setTop (mkF m 77 #[.val (.int p0), .val (.int p1), .val (.int p2), .val (.int p3), .val (.int p4), .val (.int lo), .val (.int hi), .val (.int (1 : Int32)), .val (.ref b21), .unset, .unset, .unset, .unset, .unset, .unset] [(.ref b25), (.ref b25), (.ref b21), (.int p0), (.ref b24), (.ref b24)]))
      refine own_st (fun _ k => XS.iconst X25.here hx rfl (hb hby at_77) k) ?_
      show own_Go p e below _ (T25.setTop (mkF m 78 #[.val (.int p0), .val (.int p1), .val (.int p2), .val (.int p3), .val (.int p4), .val (.int lo), .val (.int hi), .val (.int (1 : Int32)), .val (.ref b21), .unset, .unset, .unset, .unset, .unset, .unset] [(.int (0 : Int32)), (.ref b25), (.ref b25), (.ref b21), (.int p0), (.ref b24), (.ref b24)]))
      refine own_st (fun _ k => XS.iconst X25.here hx rfl (hb hby at_78) k) ?_
      show own_Go p e below _ (T25.setTop (mkF m 79 #[.val (.int p0), .val (.int p1), .val (.int p2), .val (.int p3), .val (.int p4), .val (.int lo), .val (.int hi), .val (.int (1 : Int32)), .val (.ref b21), .unset, .unset, .unset, .unset, .unset, .unset] [(.int (0 : Int32)), (.int (0 : Int32)), (.ref b25), (.ref b25), (.ref b21), (.int p0), (.ref b24), (.ref b24)]))
      obtain ⟨cl26, Ar26, qc26, S26, M26, H26, G26⟩ := V_b25
      obtain ⟨T26, h26, X26, e26, W26, st26⟩ := stI X25 hx hZ e25 Ar26 (j := (0 : Int32)) (inb_of S26 ⟨by decide, by decide⟩) (g := (mkF m 79 #[.val (.int p0), .val (.int p1), .val (.int p2), .val (.int p3), .val (.int p4), .val (.int lo), .val (.int hi), .val (.int (1 : Int32)), .val (.ref b21), .unset, .unset, .unset, .unset, .unset, .unset] [(.int (0 : Int32)), (.int (0 : Int32)), (.ref b25), (.ref b25), (.ref b21), (.int p0), (.ref b24), (.ref b24)])) rfl rfl (hb hby at_79)
      refine own_st st26 ?_
      replace V_b21 := V_b21.other W26 ne_b21_b25
      replace A24 := A24.wr W26
      replace F_sums_b24 := F_sums_b24.other W26 (Or.inl ne_b24_b25)
      replace F_party_b24 := F_party_b24.other W26 (Or.inl ne_b24_b25)
      replace F_issues_b24 := F_issues_b24.other W26 (Or.inl ne_b24_b25)
      replace F_terms_b24 := F_terms_b24.other W26 (Or.inl ne_b24_b25)
      replace Z0 := Nat.le_trans Z0 (Nat.le_of_eq W26.size.symm)
      replace N0 := Fr.snoc X26 N0 g_b25
      have V_b25 : Arv Z h26 b25 k25 .int (1 : Int32) [(.int (0 : Int32))] (.int (0 : Int32)) := Arv.set Ar26 qc26 S26 M26 H26 G26 rfl W26 0 rfl (Nat.le_of_ble_eq_true rfl)
      show own_Go p e below _ (T26.setTop (mkF m 80 #[.val (.int p0), .val (.int p1), .val (.int p2), .val (.int p3), .val (.int p4), .val (.int lo), .val (.int hi), .val (.int (1 : Int32)), .val (.ref b21), .unset, .unset, .unset, .unset, .unset, .unset] [(.ref b25), (.ref b21), (.int p0), (.ref b24), (.ref b24)]))
      obtain ⟨_, T27, L27, X27, hQ27, st27⟩ := own_callI X26 hx hZ (y := (⟨"com/example/accordant/accordant/AliveTerms$Group", "<init>", "(I[I[I)V"⟩ : MethodName)) (a := b24) (argsL := [(.int p0), (.ref b21), (.ref b25)]) (rest := [(.ref b24)]) (W := 1) (g := (mkF m 80 #[.val (.int p0), .val (.int p1), .val (.int p2), .val (.int p3), .val (.int p4), .val (.int lo), .val (.int hi), .val (.int (1 : Int32)), .val (.ref b21), .unset, .unset, .unset, .unset, .unset, .unset] [(.ref b25), (.ref b21), (.int p0), (.ref b24), (.ref b24)])) (rm3 l Z tA hw b24 p0 b21 b25 h26 n0 Z0 g_b24 A24 F_sums_b24 F_party_b24 F_issues_b24 F_terms_b24) rfl hown (hw _ (List.mem_of_getElem? (i := 11) rfl)) (hw _ (List.mem_of_getElem? (i := 12) rfl)) (hw _ (List.mem_of_getElem? (i := 10) rfl)) (hw _ (List.mem_of_getElem? (i := 13) rfl)) (by decide) e26 rfl (by rw [hml]; rfl) pd_1 rfl rfl (by show 2 * 0 + _ ≤ _; exact Nat.le_of_eq rfl) (hb hby at_80) (by decide) (by decide) (by decide) (by decide)
      obtain ⟨h27, e27⟩ : ∃ z, T27.heap = z := ⟨_, rfl⟩
      rw [e27] at hQ27
      obtain ⟨rfl, Nq27, Kq27, b27s, kb27, g_b27s, ge27, Fq27_0, V_b27s, Fq27_1, Fq27_2, Fq27_3⟩ := hQ27
      have ne_b21_b27s : b21 ≠ b27s := Nat.ne_of_lt (Nat.lt_of_lt_of_le V_b21.lt ge27)
      have ne_b27s_b21 : b27s ≠ b21 := Ne.symm ne_b21_b27s
      have ne_b24_b27s : b24 ≠ b27s := Nat.ne_of_lt (Nat.lt_of_lt_of_le A24.lt ge27)
      have ne_b27s_b24 : b27s ≠ b24 := Ne.symm ne_b24_b27s
      have ne_b25_b27s : b25 ≠ b27s := Nat.ne_of_lt (Nat.lt_of_lt_of_le V_b25.lt ge27)
      have ne_b27s_b25 : b27s ≠ b25 := Ne.symm ne_b25_b27s
      replace V_b21 := V_b21.keep Kq27 (ninS ne_b21_b24 (nin0))
      replace A24 := A24.keep Kq27
      replace V_b25 := V_b25.keep Kq27 (ninS ne_b25_b24 (nin0))
      replace Z0 := Nat.le_trans Z0 Kq27.1
      replace N0 := Fr.app N0 Nq27
      refine own_st st27 ?_
      show own_Go p e below _ (T27.setTop (mkF m 83 #[.val (.int p0), .val (.int p1), .val (.int p2), .val (.int p3), .val (.int p4), .val (.int lo), .val (.int hi), .val (.int (1 : Int32)), .val (.ref b21), .unset, .unset, .unset, .unset, .unset, .unset] [(.ref b24)]))
      refine own_st (fun _ k => XS.astore X27.here hx rfl (hb hby at_83) rfl rfl (l' := #[.val (.int p0), .val (.int p1), .val (.int p2), .val (.int p3), .val (.int p4), .val (.int lo), .val (.int hi), .val (.int (1 : Int32)), .val (.ref b21), .val (.ref b24), .unset, .unset, .unset, .unset, .unset]) rfl k) ?_
      show own_Go p e below _ (T27.setTop (mkF m 85 #[.val (.int p0), .val (.int p1), .val (.int p2), .val (.int p3), .val (.int p4), .val (.int lo), .val (.int hi), .val (.int (1 : Int32)), .val (.ref b21), .val (.ref b24), .unset, .unset, .unset, .unset, .unset] []))
      refine own_st (fun _ k => XS.aload X27.here hx rfl (hb hby at_85) rfl rfl k) ?_
      show own_Go p e below _ (T27.setTop (mkF m 87 #[.val (.int p0), .val (.int p1), .val (.int p2), .val (.int p3), .val (.int p4), .val (.int lo), .val (.int hi), .val (.int (1 : Int32)), .val (.ref b21), .val (.ref b24), .unset, .unset, .unset, .unset, .unset] [(.ref b24)]))
      refine own_st (fun _ k => XS.iload X27.here hx rfl (hb hby at_87) rfl k) ?_
      show own_Go p e below _ (T27.setTop (mkF m 89 #[.val (.int p0), .val (.int p1), .val (.int p2), .val (.int p3), .val (.int p4), .val (.int lo), .val (.int hi), .val (.int (1 : Int32)), .val (.ref b21), .val (.ref b24), .unset, .unset, .unset, .unset, .unset] [(.int lo), (.ref b24)]))
      obtain ⟨_, T28, _, X28, ⟨rfl, rfl, e28⟩, st28⟩ := own_callV X27 hx hZ (y := (⟨"com/example/accordant/accordant/AliveTerms$Group", "narrows", "(I)Z"⟩ : MethodName)) (a := b24) (argsL := [(.int lo)]) (rest := []) (W := 0) (g := (mkF m 89 #[.val (.int p0), .val (.int p1), .val (.int p2), .val (.int p3), .val (.int p4), .val (.int lo), .val (.int hi), .val (.int (1 : Int32)), .val (.ref b21), .val (.ref b24), .unset, .unset, .unset, .unset, .unset] [(.int lo), (.ref b24)])) (rmN2 l Z tA hw b24 lo b21 k21 lo hi h27 Fq27_2 V_b21) A24 hown (hw _ (List.mem_of_getElem? (i := 27) rfl)) (hw _ (List.mem_of_getElem? (i := 28) rfl)) (hw _ (List.mem_of_getElem? (i := 30) rfl)) (hw _ (List.mem_of_getElem? (i := 29) rfl)) (hw _ (List.mem_of_getElem? (i := 10) rfl)) (hw _ (List.mem_of_getElem? (i := 31) rfl)) (by decide) e27 rfl (by rw [hml]; rfl) pd_3 rfl rfl (by show 2 * 0 + _ ≤ _; exact Nat.le_of_eq rfl) (hb hby at_89) (by decide) (by decide) (by decide) (by decide)
      replace X28 := own_flat X28
      refine own_st st28 ?_
      show own_Go p e below _ (T28.setTop (mkF m 92 #[.val (.int p0), .val (.int p1), .val (.int p2), .val (.int p3), .val (.int p4), .val (.int lo), .val (.int hi), .val (.int (1 : Int32)), .val (.ref b21), .val (.ref b24), .unset, .unset, .unset, .unset, .unset] [(.int (own_n2_0 lo lo hi))]))
      refine own_st (fun _ k => XS.istore X28.here hx rfl (hb hby at_92) rfl (l' := #[.val (.int p0), .val (.int p1), .val (.int p2), .val (.int p3), .val (.int p4), .val (.int lo), .val (.int hi), .val (.int (1 : Int32)), .val (.ref b21), .val (.ref b24), .val (.int (own_n2_0 lo lo hi)), .unset, .unset, .unset, .unset]) rfl k) ?_
      show own_Go p e below _ (T28.setTop (mkF m 94 #[.val (.int p0), .val (.int p1), .val (.int p2), .val (.int p3), .val (.int p4), .val (.int lo), .val (.int hi), .val (.int (1 : Int32)), .val (.ref b21), .val (.ref b24), .val (.int (own_n2_0 lo lo hi)), .unset, .unset, .unset, .unset] []))
      refine own_st (fun _ k => XS.aload X28.here hx rfl (hb hby at_94) rfl rfl k) ?_
      show own_Go p e below _ (T28.setTop (mkF m 96 #[.val (.int p0), .val (.int p1), .val (.int p2), .val (.int p3), .val (.int p4), .val (.int lo), .val (.int hi), .val (.int (1 : Int32)), .val (.ref b21), .val (.ref b24), .val (.int (own_n2_0 lo lo hi)), .unset, .unset, .unset, .unset] [(.ref b24)]))
      refine own_st (fun _ k => XS.iload X28.here hx rfl (hb hby at_96) rfl k) ?_
      show own_Go p e below _ (T28.setTop (mkF m 98 #[.val (.int p0), .val (.int p1), .val (.int p2), .val (.int p3), .val (.int p4), .val (.int lo), .val (.int hi), .val (.int (1 : Int32)), .val (.ref b21), .val (.ref b24), .val (.int (own_n2_0 lo lo hi)), .unset, .unset, .unset, .unset] [(.int hi), (.ref b24)]))
      obtain ⟨_, T29, _, X29, ⟨rfl, rfl, e29⟩, st29⟩ := own_callV X28 hx hZ (y := (⟨"com/example/accordant/accordant/AliveTerms$Group", "narrows", "(I)Z"⟩ : MethodName)) (a := b24) (argsL := [(.int hi)]) (rest := []) (W := 0) (g := (mkF m 98 #[.val (.int p0), .val (.int p1), .val (.int p2), .val (.int p3), .val (.int p4), .val (.int lo), .val (.int hi), .val (.int (1 : Int32)), .val (.ref b21), .val (.ref b24), .val (.int (own_n2_0 lo lo hi)), .unset, .unset, .unset, .unset] [(.int hi), (.ref b24)])) (rmN2 l Z tA hw b24 hi b21 k21 lo hi h27 Fq27_2 V_b21) A24 hown (hw _ (List.mem_of_getElem? (i := 27) rfl)) (hw _ (List.mem_of_getElem? (i := 28) rfl)) (hw _ (List.mem_of_getElem? (i := 30) rfl)) (hw _ (List.mem_of_getElem? (i := 29) rfl)) (hw _ (List.mem_of_getElem? (i := 10) rfl)) (hw _ (List.mem_of_getElem? (i := 31) rfl)) (by decide) e28 rfl (by rw [hml]; rfl) pd_3 rfl rfl (by show 2 * 0 + _ ≤ _; exact Nat.le_of_eq rfl) (hb hby at_98) (by decide) (by decide) (by decide) (by decide)
      replace X29 := own_flat X29
      refine own_st st29 ?_
      show own_Go p e below _ (T29.setTop (mkF m 101 #[.val (.int p0), .val (.int p1), .val (.int p2), .val (.int p3), .val (.int p4), .val (.int lo), .val (.int hi), .val (.int (1 : Int32)), .val (.ref b21), .val (.ref b24), .val (.int (own_n2_0 lo lo hi)), .unset, .unset, .unset, .unset] [(.int (own_n2_0 hi lo hi))]))
      refine own_st (fun _ k => XS.istore X29.here hx rfl (hb hby at_101) rfl (l' := #[.val (.int p0), .val (.int p1), .val (.int p2), .val (.int p3), .val (.int p4), .val (.int lo), .val (.int hi), .val (.int (1 : Int32)), .val (.ref b21), .val (.ref b24), .val (.int (own_n2_0 lo lo hi)), .val (.int (own_n2_0 hi lo hi)), .unset, .unset, .unset]) rfl k) ?_
      show own_Go p e below _ (T29.setTop (mkF m 103 #[.val (.int p0), .val (.int p1), .val (.int p2), .val (.int p3), .val (.int p4), .val (.int lo), .val (.int hi), .val (.int (1 : Int32)), .val (.ref b21), .val (.ref b24), .val (.int (own_n2_0 lo lo hi)), .val (.int (own_n2_0 hi lo hi)), .unset, .unset, .unset] []))
      refine own_st (fun _ k => XS.aload X29.here hx rfl (hb hby at_103) rfl rfl k) ?_
      show own_Go p e below _ (T29.setTop (mkF m 105 #[.val (.int p0), .val (.int p1), .val (.int p2), .val (.int p3), .val (.int p4), .val (.int lo), .val (.int hi), .val (.int (1 : Int32)), .val (.ref b21), .val (.ref b24), .val (.int (own_n2_0 lo lo hi)), .val (.int (own_n2_0 hi lo hi)), .unset, .unset, .unset] [(.ref b24)]))
      refine own_st (fun _ k => XS.iloadN X29.here hx rfl (hb hby at_105) rfl k) ?_
      show own_Go p e below _ (T29.setTop (mkF m 106 #[.val (.int p0), .val (.int p1), .val (.int p2), .val (.int p3), .val (.int p4), .val (.int lo), .val (.int hi), .val (.int (1 : Int32)), .val (.ref b21), .val (.ref b24), .val (.int (own_n2_0 lo lo hi)), .val (.int (own_n2_0 hi lo hi)), .unset, .unset, .unset] [(.int p3), (.ref b24)]))
      obtain ⟨_, T30, _, X30, ⟨rfl, rfl, e30⟩, st30⟩ := own_callV X29 hx hZ (y := (⟨"com/example/accordant/accordant/AliveTerms$Group", "narrows", "(I)Z"⟩ : MethodName)) (a := b24) (argsL := [(.int p3)]) (rest := []) (W := 0) (g := (mkF m 106 #[.val (.int p0), .val (.int p1), .val (.int p2), .val (.int p3), .val (.int p4), .val (.int lo), .val (.int hi), .val (.int (1 : Int32)), .val (.ref b21), .val (.ref b24), .val (.int (own_n2_0 lo lo hi)), .val (.int (own_n2_0 hi lo hi)), .unset, .unset, .unset] [(.int p3), (.ref b24)])) (rmN2 l Z tA hw b24 p3 b21 k21 lo hi h27 Fq27_2 V_b21) A24 hown (hw _ (List.mem_of_getElem? (i := 27) rfl)) (hw _ (List.mem_of_getElem? (i := 28) rfl)) (hw _ (List.mem_of_getElem? (i := 30) rfl)) (hw _ (List.mem_of_getElem? (i := 29) rfl)) (hw _ (List.mem_of_getElem? (i := 10) rfl)) (hw _ (List.mem_of_getElem? (i := 31) rfl)) (by decide) e29 rfl (by rw [hml]; rfl) pd_3 rfl rfl (by show 2 * 0 + _ ≤ _; exact Nat.le_of_eq rfl) (hb hby at_106) (by decide) (by decide) (by decide) (by decide)
      replace X30 := own_flat X30
      refine own_st st30 ?_
      show own_Go p e below _ (T30.setTop (mkF m 109 #[.val (.int p0), .val (.int p1), .val (.int p2), .val (.int p3), .val (.int p4), .val (.int lo), .val (.int hi), .val (.int (1 : Int32)), .val (.ref b21), .val (.ref b24), .val (.int (own_n2_0 lo lo hi)), .val (.int (own_n2_0 hi lo hi)), .unset, .unset, .unset] [(.int (own_n2_0 p3 lo hi))]))
      refine own_st (fun _ k => XS.istore X30.here hx rfl (hb hby at_109) rfl (l' := #[.val (.int p0), .val (.int p1), .val (.int p2), .val (.int p3), .val (.int p4), .val (.int lo), .val (.int hi), .val (.int (1 : Int32)), .val (.ref b21), .val (.ref b24), .val (.int (own_n2_0 lo lo hi)), .val (.int (own_n2_0 hi lo hi)), .val (.int (own_n2_0 p3 lo hi)), .unset, .unset]) rfl k) ?_
      show own_Go p e below _ (T30.setTop (mkF m 111 #[.val (.int p0), .val (.int p1), .val (.int p2), .val (.int p3), .val (.int p4), .val (.int lo), .val (.int hi), .val (.int (1 : Int32)), .val (.ref b21), .val (.ref b24), .val (.int (own_n2_0 lo lo hi)), .val (.int (own_n2_0 hi lo hi)), .val (.int (own_n2_0 p3 lo hi)), .unset, .unset] []))
      refine own_st (fun _ k => XS.iload X30.here hx rfl (hb hby at_111) rfl k) ?_
      show own_Go p e below _ (T30.setTop (mkF m 113 #[.val (.int p0), .val (.int p1), .val (.int p2), .val (.int p3), .val (.int p4), .val (.int lo), .val (.int hi), .val (.int (1 : Int32)), .val (.ref b21), .val (.ref b24), .val (.int (own_n2_0 lo lo hi)), .val (.int (own_n2_0 hi lo hi)), .val (.int (own_n2_0 p3 lo hi)), .unset, .unset] [(.int (1 : Int32))]))
      refine own_st (fun _ k => XS.ifYes X30.here hx rfl (pc0 := 113) (pc' := 123) rfl (hb hby at_113) rfl ((own_i0 _ _).trans (own_nno ((by decide : ¬ ((1 : Int32) = (0 : Int32))) : ¬ ((1 : Int32) = (0 : Int32))))) (by decide) (by decide) k) ?_
      show own_Go p e below _ (T30.setTop (mkF m 123 #[.val (.int p0), .val (.int p1), .val (.int p2), .val (.int p3), .val (.int p4), .val (.int lo), .val (.int hi), .val (.int (1 : Int32)), .val (.ref b21), .val (.ref b24), .val (.int (own_n2_0 lo lo hi)), .val (.int (own_n2_0 hi lo hi)), .val (.int (own_n2_0 p3 lo hi)), .unset, .unset] []))
      refine own_st (fun _ k => XS.iconst X30.here hx rfl (hb hby at_123) k) ?_
      show own_Go p e below _ (T30.setTop (mkF m 124 #[.val (.int p0), .val (.int p1), .val (.int p2), .val (.int p3), .val (.int p4), .val (.int lo), .val (.int hi), .val (.int (1 : Int32)), .val (.ref b21), .val (.ref b24), .val (.int (own_n2_0 lo lo hi)), .val (.int (own_n2_0 hi lo hi)), .val (.int (own_n2_0 p3 lo hi)), .unset, .unset] [(.int (1 : Int32))]))
      refine own_st (fun _ k => XS.goto X30.here hx rfl (pc0 := 124) (pc' := 128) rfl (hb hby at_124) (by decide) (by decide) k) ?_
      show own_Go p e below _ (T30.setTop (mkF m 128 #[.val (.int p0), .val (.int p1), .val (.int p2), .val (.int p3), .val (.int p4), .val (.int lo), .val (.int hi), .val (.int (1 : Int32)), .val (.ref b21), .val (.ref b24), .val (.int (own_n2_0 lo lo hi)), .val (.int (own_n2_0 hi lo hi)), .val (.int (own_n2_0 p3 lo hi)), .unset, .unset] [(.int (1 : Int32))]))
      refine own_st (fun _ k => XS.istore X30.here hx rfl (hb hby at_128) rfl (l' := #[.val (.int p0), .val (.int p1), .val (.int p2), .val (.int p3), .val (.int p4), .val (.int lo), .val (.int hi), .val (.int (1 : Int32)), .val (.ref b21), .val (.ref b24), .val (.int (own_n2_0 lo lo hi)), .val (.int (own_n2_0 hi lo hi)), .val (.int (own_n2_0 p3 lo hi)), .val (.int (1 : Int32)), .unset]) rfl k) ?_
      show own_Go p e below _ (T30.setTop (mkF m 130 #[.val (.int p0), .val (.int p1), .val (.int p2), .val (.int p3), .val (.int p4), .val (.int lo), .val (.int hi), .val (.int (1 : Int32)), .val (.ref b21), .val (.ref b24), .val (.int (own_n2_0 lo lo hi)), .val (.int (own_n2_0 hi lo hi)), .val (.int (own_n2_0 p3 lo hi)), .val (.int (1 : Int32)), .unset] []))
      refine own_st (fun _ k => XS.iloadN X30.here hx rfl (hb hby at_130) rfl k) ?_
      show own_Go p e below _ (T30.setTop (mkF m 131 #[.val (.int p0), .val (.int p1), .val (.int p2), .val (.int p3), .val (.int p4), .val (.int lo), .val (.int hi), .val (.int (1 : Int32)), .val (.ref b21), .val (.ref b24), .val (.int (own_n2_0 lo lo hi)), .val (.int (own_n2_0 hi lo hi)), .val (.int (own_n2_0 p3 lo hi)), .val (.int (1 : Int32)), .unset] [(.int p3)]))
      refine own_st (fun _ k => XS.iload X30.here hx rfl (hb hby at_131) rfl k) ?_
      show own_Go p e below _ (T30.setTop (mkF m 133 #[.val (.int p0), .val (.int p1), .val (.int p2), .val (.int p3), .val (.int p4), .val (.int lo), .val (.int hi), .val (.int (1 : Int32)), .val (.ref b21), .val (.ref b24), .val (.int (own_n2_0 lo lo hi)), .val (.int (own_n2_0 hi lo hi)), .val (.int (own_n2_0 p3 lo hi)), .val (.int (1 : Int32)), .unset] [(.int lo), (.int p3)]))
      by_cases hc133 : p3 = lo
      · refine own_st (fun _ k => XS.icmpYes X30.here hx rfl (pc0 := 133) (pc' := 147) rfl (hb hby at_133) rfl ((own_i2 _ _ _).trans (own_yes (hc133 : p3 = lo))) (by decide) (by decide) k) ?_
        show own_Go p e below _ (T30.setTop (mkF m 147 #[.val (.int p0), .val (.int p1), .val (.int p2), .val (.int p3), .val (.int p4), .val (.int lo), .val (.int hi), .val (.int (1 : Int32)), .val (.ref b21), .val (.ref b24), .val (.int (own_n2_0 lo lo hi)), .val (.int (own_n2_0 hi lo hi)), .val (.int (own_n2_0 p3 lo hi)), .val (.int (1 : Int32)), .unset] []))
        refine own_st (fun _ k => XS.iconst X30.here hx rfl (hb hby at_147) k) ?_
        show own_Go p e below _ (T30.setTop (mkF m 148 #[.val (.int p0), .val (.int p1), .val (.int p2), .val (.int p3), .val (.int p4), .val (.int lo), .val (.int hi), .val (.int (1 : Int32)), .val (.ref b21), .val (.ref b24), .val (.int (own_n2_0 lo lo hi)), .val (.int (own_n2_0 hi lo hi)), .val (.int (own_n2_0 p3 lo hi)), .val (.int (1 : Int32)), .unset] [(.int (1 : Int32))]))
        refine own_st (fun _ k => XS.goto X30.here hx rfl (pc0 := 148) (pc' := 152) rfl (hb hby at_148) (by decide) (by decide) k) ?_
        show own_Go p e below _ (T30.setTop (mkF m 152 #[.val (.int p0), .val (.int p1), .val (.int p2), .val (.int p3), .val (.int p4), .val (.int lo), .val (.int hi), .val (.int (1 : Int32)), .val (.ref b21), .val (.ref b24), .val (.int (own_n2_0 lo lo hi)), .val (.int (own_n2_0 hi lo hi)), .val (.int (own_n2_0 p3 lo hi)), .val (.int (1 : Int32)), .unset] [(.int (1 : Int32))]))
        refine own_st (fun _ k => XS.istore X30.here hx rfl (hb hby at_152) rfl (l' := #[.val (.int p0), .val (.int p1), .val (.int p2), .val (.int p3), .val (.int p4), .val (.int lo), .val (.int hi), .val (.int (1 : Int32)), .val (.ref b21), .val (.ref b24), .val (.int (own_n2_0 lo lo hi)), .val (.int (own_n2_0 hi lo hi)), .val (.int (own_n2_0 p3 lo hi)), .val (.int (1 : Int32)), .val (.int (1 : Int32))]) rfl k) ?_
        show own_Go p e below _ (T30.setTop (mkF m 154 #[.val (.int p0), .val (.int p1), .val (.int p2), .val (.int p3), .val (.int p4), .val (.int lo), .val (.int hi), .val (.int (1 : Int32)), .val (.ref b21), .val (.ref b24), .val (.int (own_n2_0 lo lo hi)), .val (.int (own_n2_0 hi lo hi)), .val (.int (own_n2_0 p3 lo hi)), .val (.int (1 : Int32)), .val (.int (1 : Int32))] []))
        refine own_st (fun _ k => XS.iload X30.here hx rfl (hb hby at_154) rfl k) ?_
        show own_Go p e below _ (T30.setTop (mkF m 156 #[.val (.int p0), .val (.int p1), .val (.int p2), .val (.int p3), .val (.int p4), .val (.int lo), .val (.int hi), .val (.int (1 : Int32)), .val (.ref b21), .val (.ref b24), .val (.int (own_n2_0 lo lo hi)), .val (.int (own_n2_0 hi lo hi)), .val (.int (own_n2_0 p3 lo hi)), .val (.int (1 : Int32)), .val (.int (1 : Int32))] [(.int (own_n2_0 lo lo hi))]))
        refine own_st (fun _ k => XS.ifNo X30.here hx rfl (hb hby at_156) rfl ((own_i0 _ _).trans (own_no ((own_ne0 (own_y2 rfl)) : ¬ ((own_n2_0 lo lo hi) = (0 : Int32))))) k) ?_
        show own_Go p e below _ (T30.setTop (mkF m 159 #[.val (.int p0), .val (.int p1), .val (.int p2), .val (.int p3), .val (.int p4), .val (.int lo), .val (.int hi), .val (.int (1 : Int32)), .val (.ref b21), .val (.ref b24), .val (.int (own_n2_0 lo lo hi)), .val (.int (own_n2_0 hi lo hi)), .val (.int (own_n2_0 p3 lo hi)), .val (.int (1 : Int32)), .val (.int (1 : Int32))] []))
        refine own_st (fun _ k => XS.iload X30.here hx rfl (hb hby at_159) rfl k) ?_
        show own_Go p e below _ (T30.setTop (mkF m 161 #[.val (.int p0), .val (.int p1), .val (.int p2), .val (.int p3), .val (.int p4), .val (.int lo), .val (.int hi), .val (.int (1 : Int32)), .val (.ref b21), .val (.ref b24), .val (.int (own_n2_0 lo lo hi)), .val (.int (own_n2_0 hi lo hi)), .val (.int (own_n2_0 p3 lo hi)), .val (.int (1 : Int32)), .val (.int (1 : Int32))] [(.int (own_n2_0 hi lo hi))]))
        refine own_st (fun _ k => XS.iload X30.here hx rfl (hb hby at_161) rfl k) ?_
        show own_Go p e below _ (T30.setTop (mkF m 163 #[.val (.int p0), .val (.int p1), .val (.int p2), .val (.int p3), .val (.int p4), .val (.int lo), .val (.int hi), .val (.int (1 : Int32)), .val (.ref b21), .val (.ref b24), .val (.int (own_n2_0 lo lo hi)), .val (.int (own_n2_0 hi lo hi)), .val (.int (own_n2_0 p3 lo hi)), .val (.int (1 : Int32)), .val (.int (1 : Int32))] [(.int (1 : Int32)), (.int (own_n2_0 hi lo hi))]))
        refine own_st (fun _ k => XS.icmpNo X30.here hx rfl (hb hby at_163) rfl ((own_i2 _ _ _).trans (own_nyes ((own_y3 (fun q => hc25 q.symm) rfl) : (own_n2_0 hi lo hi) = (1 : Int32)))) k) ?_
        show own_Go p e below _ (T30.setTop (mkF m 166 #[.val (.int p0), .val (.int p1), .val (.int p2), .val (.int p3), .val (.int p4), .val (.int lo), .val (.int hi), .val (.int (1 : Int32)), .val (.ref b21), .val (.ref b24), .val (.int (own_n2_0 lo lo hi)), .val (.int (own_n2_0 hi lo hi)), .val (.int (own_n2_0 p3 lo hi)), .val (.int (1 : Int32)), .val (.int (1 : Int32))] []))
        refine own_st (fun _ k => XS.iload X30.here hx rfl (hb hby at_166) rfl k) ?_
        show own_Go p e below _ (T30.setTop (mkF m 168 #[.val (.int p0), .val (.int p1), .val (.int p2), .val (.int p3), .val (.int p4), .val (.int lo), .val (.int hi), .val (.int (1 : Int32)), .val (.ref b21), .val (.ref b24), .val (.int (own_n2_0 lo lo hi)), .val (.int (own_n2_0 hi lo hi)), .val (.int (own_n2_0 p3 lo hi)), .val (.int (1 : Int32)), .val (.int (1 : Int32))] [(.int (own_n2_0 p3 lo hi))]))
        refine own_st (fun _ k => XS.iload X30.here hx rfl (hb hby at_168) rfl k) ?_
        show own_Go p e below _ (T30.setTop (mkF m 170 #[.val (.int p0), .val (.int p1), .val (.int p2), .val (.int p3), .val (.int p4), .val (.int lo), .val (.int hi), .val (.int (1 : Int32)), .val (.ref b21), .val (.ref b24), .val (.int (own_n2_0 lo lo hi)), .val (.int (own_n2_0 hi lo hi)), .val (.int (own_n2_0 p3 lo hi)), .val (.int (1 : Int32)), .val (.int (1 : Int32))] [(.int (1 : Int32)), (.int (own_n2_0 p3 lo hi))]))
        refine own_st (fun _ k => XS.icmpNo X30.here hx rfl (hb hby at_170) rfl ((own_i2 _ _ _).trans (own_nyes ((own_y2 hc133) : (own_n2_0 p3 lo hi) = (1 : Int32)))) k) ?_
        show own_Go p e below _ (T30.setTop (mkF m 173 #[.val (.int p0), .val (.int p1), .val (.int p2), .val (.int p3), .val (.int p4), .val (.int lo), .val (.int hi), .val (.int (1 : Int32)), .val (.ref b21), .val (.ref b24), .val (.int (own_n2_0 lo lo hi)), .val (.int (own_n2_0 hi lo hi)), .val (.int (own_n2_0 p3 lo hi)), .val (.int (1 : Int32)), .val (.int (1 : Int32))] []))
        refine own_st (fun _ k => XS.iconst X30.here hx rfl (hb hby at_173) k) ?_
        show own_Go p e below _ (T30.setTop (mkF m 174 #[.val (.int p0), .val (.int p1), .val (.int p2), .val (.int p3), .val (.int p4), .val (.int lo), .val (.int hi), .val (.int (1 : Int32)), .val (.ref b21), .val (.ref b24), .val (.int (own_n2_0 lo lo hi)), .val (.int (own_n2_0 hi lo hi)), .val (.int (own_n2_0 p3 lo hi)), .val (.int (1 : Int32)), .val (.int (1 : Int32))] [(.int (1 : Int32))]))
        refine own_st (fun _ k => XS.goto X30.here hx rfl (pc0 := 174) (pc' := 178) rfl (hb hby at_174) (by decide) (by decide) k) ?_
        show own_Go p e below _ (T30.setTop (mkF m 178 #[.val (.int p0), .val (.int p1), .val (.int p2), .val (.int p3), .val (.int p4), .val (.int lo), .val (.int hi), .val (.int (1 : Int32)), .val (.ref b21), .val (.ref b24), .val (.int (own_n2_0 lo lo hi)), .val (.int (own_n2_0 hi lo hi)), .val (.int (own_n2_0 p3 lo hi)), .val (.int (1 : Int32)), .val (.int (1 : Int32))] [(.int (1 : Int32))]))
        exact own_retZ X30 hx hlk hret rfl (hb hby at_178) ⟨rfl, N0⟩ (by decide) (by decide)
      · refine own_st (fun _ k => XS.icmpNo X30.here hx rfl (hb hby at_133) rfl ((own_i2 _ _ _).trans (own_no (hc133 : ¬ (p3 = lo)))) k) ?_
        show own_Go p e below _ (T30.setTop (mkF m 136 #[.val (.int p0), .val (.int p1), .val (.int p2), .val (.int p3), .val (.int p4), .val (.int lo), .val (.int hi), .val (.int (1 : Int32)), .val (.ref b21), .val (.ref b24), .val (.int (own_n2_0 lo lo hi)), .val (.int (own_n2_0 hi lo hi)), .val (.int (own_n2_0 p3 lo hi)), .val (.int (1 : Int32)), .unset] []))
        refine own_st (fun _ k => XS.iload X30.here hx rfl (hb hby at_136) rfl k) ?_
        show own_Go p e below _ (T30.setTop (mkF m 138 #[.val (.int p0), .val (.int p1), .val (.int p2), .val (.int p3), .val (.int p4), .val (.int lo), .val (.int hi), .val (.int (1 : Int32)), .val (.ref b21), .val (.ref b24), .val (.int (own_n2_0 lo lo hi)), .val (.int (own_n2_0 hi lo hi)), .val (.int (own_n2_0 p3 lo hi)), .val (.int (1 : Int32)), .unset] [(.int (1 : Int32))]))
        refine own_st (fun _ k => XS.ifNo X30.here hx rfl (hb hby at_138) rfl ((own_i0 _ _).trans (own_no ((by decide : ¬ ((1 : Int32) = (0 : Int32))) : ¬ ((1 : Int32) = (0 : Int32))))) k) ?_
        show own_Go p e below _ (T30.setTop (mkF m 141 #[.val (.int p0), .val (.int p1), .val (.int p2), .val (.int p3), .val (.int p4), .val (.int lo), .val (.int hi), .val (.int (1 : Int32)), .val (.ref b21), .val (.ref b24), .val (.int (own_n2_0 lo lo hi)), .val (.int (own_n2_0 hi lo hi)), .val (.int (own_n2_0 p3 lo hi)), .val (.int (1 : Int32)), .unset] []))
        refine own_st (fun _ k => XS.iloadN X30.here hx rfl (hb hby at_141) rfl k) ?_
        show own_Go p e below _ (T30.setTop (mkF m 142 #[.val (.int p0), .val (.int p1), .val (.int p2), .val (.int p3), .val (.int p4), .val (.int lo), .val (.int hi), .val (.int (1 : Int32)), .val (.ref b21), .val (.ref b24), .val (.int (own_n2_0 lo lo hi)), .val (.int (own_n2_0 hi lo hi)), .val (.int (own_n2_0 p3 lo hi)), .val (.int (1 : Int32)), .unset] [(.int p3)]))
        refine own_st (fun _ k => XS.iload X30.here hx rfl (hb hby at_142) rfl k) ?_
        show own_Go p e below _ (T30.setTop (mkF m 144 #[.val (.int p0), .val (.int p1), .val (.int p2), .val (.int p3), .val (.int p4), .val (.int lo), .val (.int hi), .val (.int (1 : Int32)), .val (.ref b21), .val (.ref b24), .val (.int (own_n2_0 lo lo hi)), .val (.int (own_n2_0 hi lo hi)), .val (.int (own_n2_0 p3 lo hi)), .val (.int (1 : Int32)), .unset] [(.int hi), (.int p3)]))
        by_cases hc144 : p3 = hi
        · refine own_st (fun _ k => XS.icmpNo X30.here hx rfl (hb hby at_144) rfl ((own_i2 _ _ _).trans (own_nyes (hc144 : p3 = hi))) k) ?_
          show own_Go p e below _ (T30.setTop (mkF m 147 #[.val (.int p0), .val (.int p1), .val (.int p2), .val (.int p3), .val (.int p4), .val (.int lo), .val (.int hi), .val (.int (1 : Int32)), .val (.ref b21), .val (.ref b24), .val (.int (own_n2_0 lo lo hi)), .val (.int (own_n2_0 hi lo hi)), .val (.int (own_n2_0 p3 lo hi)), .val (.int (1 : Int32)), .unset] []))
          refine own_st (fun _ k => XS.iconst X30.here hx rfl (hb hby at_147) k) ?_
          show own_Go p e below _ (T30.setTop (mkF m 148 #[.val (.int p0), .val (.int p1), .val (.int p2), .val (.int p3), .val (.int p4), .val (.int lo), .val (.int hi), .val (.int (1 : Int32)), .val (.ref b21), .val (.ref b24), .val (.int (own_n2_0 lo lo hi)), .val (.int (own_n2_0 hi lo hi)), .val (.int (own_n2_0 p3 lo hi)), .val (.int (1 : Int32)), .unset] [(.int (1 : Int32))]))
          refine own_st (fun _ k => XS.goto X30.here hx rfl (pc0 := 148) (pc' := 152) rfl (hb hby at_148) (by decide) (by decide) k) ?_
          show own_Go p e below _ (T30.setTop (mkF m 152 #[.val (.int p0), .val (.int p1), .val (.int p2), .val (.int p3), .val (.int p4), .val (.int lo), .val (.int hi), .val (.int (1 : Int32)), .val (.ref b21), .val (.ref b24), .val (.int (own_n2_0 lo lo hi)), .val (.int (own_n2_0 hi lo hi)), .val (.int (own_n2_0 p3 lo hi)), .val (.int (1 : Int32)), .unset] [(.int (1 : Int32))]))
          refine own_st (fun _ k => XS.istore X30.here hx rfl (hb hby at_152) rfl (l' := #[.val (.int p0), .val (.int p1), .val (.int p2), .val (.int p3), .val (.int p4), .val (.int lo), .val (.int hi), .val (.int (1 : Int32)), .val (.ref b21), .val (.ref b24), .val (.int (own_n2_0 lo lo hi)), .val (.int (own_n2_0 hi lo hi)), .val (.int (own_n2_0 p3 lo hi)), .val (.int (1 : Int32)), .val (.int (1 : Int32))]) rfl k) ?_
          show own_Go p e below _ (T30.setTop (mkF m 154 #[.val (.int p0), .val (.int p1), .val (.int p2), .val (.int p3), .val (.int p4), .val (.int lo), .val (.int hi), .val (.int (1 : Int32)), .val (.ref b21), .val (.ref b24), .val (.int (own_n2_0 lo lo hi)), .val (.int (own_n2_0 hi lo hi)), .val (.int (own_n2_0 p3 lo hi)), .val (.int (1 : Int32)), .val (.int (1 : Int32))] []))
          refine own_st (fun _ k => XS.iload X30.here hx rfl (hb hby at_154) rfl k) ?_
          show own_Go p e below _ (T30.setTop (mkF m 156 #[.val (.int p0), .val (.int p1), .val (.int p2), .val (.int p3), .val (.int p4), .val (.int lo), .val (.int hi), .val (.int (1 : Int32)), .val (.ref b21), .val (.ref b24), .val (.int (own_n2_0 lo lo hi)), .val (.int (own_n2_0 hi lo hi)), .val (.int (own_n2_0 p3 lo hi)), .val (.int (1 : Int32)), .val (.int (1 : Int32))] [(.int (own_n2_0 lo lo hi))]))
          refine own_st (fun _ k => XS.ifNo X30.here hx rfl (hb hby at_156) rfl ((own_i0 _ _).trans (own_no ((own_ne0 (own_y2 rfl)) : ¬ ((own_n2_0 lo lo hi) = (0 : Int32))))) k) ?_
          show own_Go p e below _ (T30.setTop (mkF m 159 #[.val (.int p0), .val (.int p1), .val (.int p2), .val (.int p3), .val (.int p4), .val (.int lo), .val (.int hi), .val (.int (1 : Int32)), .val (.ref b21), .val (.ref b24), .val (.int (own_n2_0 lo lo hi)), .val (.int (own_n2_0 hi lo hi)), .val (.int (own_n2_0 p3 lo hi)), .val (.int (1 : Int32)), .val (.int (1 : Int32))] []))
          refine own_st (fun _ k => XS.iload X30.here hx rfl (hb hby at_159) rfl k) ?_
          show own_Go p e below _ (T30.setTop (mkF m 161 #[.val (.int p0), .val (.int p1), .val (.int p2), .val (.int p3), .val (.int p4), .val (.int lo), .val (.int hi), .val (.int (1 : Int32)), .val (.ref b21), .val (.ref b24), .val (.int (own_n2_0 lo lo hi)), .val (.int (own_n2_0 hi lo hi)), .val (.int (own_n2_0 p3 lo hi)), .val (.int (1 : Int32)), .val (.int (1 : Int32))] [(.int (own_n2_0 hi lo hi))]))
          refine own_st (fun _ k => XS.iload X30.here hx rfl (hb hby at_161) rfl k) ?_
          show own_Go p e below _ (T30.setTop (mkF m 163 #[.val (.int p0), .val (.int p1), .val (.int p2), .val (.int p3), .val (.int p4), .val (.int lo), .val (.int hi), .val (.int (1 : Int32)), .val (.ref b21), .val (.ref b24), .val (.int (own_n2_0 lo lo hi)), .val (.int (own_n2_0 hi lo hi)), .val (.int (own_n2_0 p3 lo hi)), .val (.int (1 : Int32)), .val (.int (1 : Int32))] [(.int (1 : Int32)), (.int (own_n2_0 hi lo hi))]))
          refine own_st (fun _ k => XS.icmpNo X30.here hx rfl (hb hby at_163) rfl ((own_i2 _ _ _).trans (own_nyes ((own_y3 (fun q => hc25 q.symm) rfl) : (own_n2_0 hi lo hi) = (1 : Int32)))) k) ?_
          show own_Go p e below _ (T30.setTop (mkF m 166 #[.val (.int p0), .val (.int p1), .val (.int p2), .val (.int p3), .val (.int p4), .val (.int lo), .val (.int hi), .val (.int (1 : Int32)), .val (.ref b21), .val (.ref b24), .val (.int (own_n2_0 lo lo hi)), .val (.int (own_n2_0 hi lo hi)), .val (.int (own_n2_0 p3 lo hi)), .val (.int (1 : Int32)), .val (.int (1 : Int32))] []))
          refine own_st (fun _ k => XS.iload X30.here hx rfl (hb hby at_166) rfl k) ?_
          show own_Go p e below _ (T30.setTop (mkF m 168 #[.val (.int p0), .val (.int p1), .val (.int p2), .val (.int p3), .val (.int p4), .val (.int lo), .val (.int hi), .val (.int (1 : Int32)), .val (.ref b21), .val (.ref b24), .val (.int (own_n2_0 lo lo hi)), .val (.int (own_n2_0 hi lo hi)), .val (.int (own_n2_0 p3 lo hi)), .val (.int (1 : Int32)), .val (.int (1 : Int32))] [(.int (own_n2_0 p3 lo hi))]))
          refine own_st (fun _ k => XS.iload X30.here hx rfl (hb hby at_168) rfl k) ?_
          show own_Go p e below _ (T30.setTop (mkF m 170 #[.val (.int p0), .val (.int p1), .val (.int p2), .val (.int p3), .val (.int p4), .val (.int lo), .val (.int hi), .val (.int (1 : Int32)), .val (.ref b21), .val (.ref b24), .val (.int (own_n2_0 lo lo hi)), .val (.int (own_n2_0 hi lo hi)), .val (.int (own_n2_0 p3 lo hi)), .val (.int (1 : Int32)), .val (.int (1 : Int32))] [(.int (1 : Int32)), (.int (own_n2_0 p3 lo hi))]))
          refine own_st (fun _ k => XS.icmpNo X30.here hx rfl (hb hby at_170) rfl ((own_i2 _ _ _).trans (own_nyes ((own_y3 hc133 hc144) : (own_n2_0 p3 lo hi) = (1 : Int32)))) k) ?_
          show own_Go p e below _ (T30.setTop (mkF m 173 #[.val (.int p0), .val (.int p1), .val (.int p2), .val (.int p3), .val (.int p4), .val (.int lo), .val (.int hi), .val (.int (1 : Int32)), .val (.ref b21), .val (.ref b24), .val (.int (own_n2_0 lo lo hi)), .val (.int (own_n2_0 hi lo hi)), .val (.int (own_n2_0 p3 lo hi)), .val (.int (1 : Int32)), .val (.int (1 : Int32))] []))
          refine own_st (fun _ k => XS.iconst X30.here hx rfl (hb hby at_173) k) ?_
          show own_Go p e below _ (T30.setTop (mkF m 174 #[.val (.int p0), .val (.int p1), .val (.int p2), .val (.int p3), .val (.int p4), .val (.int lo), .val (.int hi), .val (.int (1 : Int32)), .val (.ref b21), .val (.ref b24), .val (.int (own_n2_0 lo lo hi)), .val (.int (own_n2_0 hi lo hi)), .val (.int (own_n2_0 p3 lo hi)), .val (.int (1 : Int32)), .val (.int (1 : Int32))] [(.int (1 : Int32))]))
          refine own_st (fun _ k => XS.goto X30.here hx rfl (pc0 := 174) (pc' := 178) rfl (hb hby at_174) (by decide) (by decide) k) ?_
          show own_Go p e below _ (T30.setTop (mkF m 178 #[.val (.int p0), .val (.int p1), .val (.int p2), .val (.int p3), .val (.int p4), .val (.int lo), .val (.int hi), .val (.int (1 : Int32)), .val (.ref b21), .val (.ref b24), .val (.int (own_n2_0 lo lo hi)), .val (.int (own_n2_0 hi lo hi)), .val (.int (own_n2_0 p3 lo hi)), .val (.int (1 : Int32)), .val (.int (1 : Int32))] [(.int (1 : Int32))]))
          exact own_retZ X30 hx hlk hret rfl (hb hby at_178) ⟨rfl, N0⟩ (by decide) (by decide)
        · refine own_st (fun _ k => XS.icmpYes X30.here hx rfl (pc0 := 144) (pc' := 151) rfl (hb hby at_144) rfl ((own_i2 _ _ _).trans (own_nno (hc144 : ¬ (p3 = hi)))) (by decide) (by decide) k) ?_
          show own_Go p e below _ (T30.setTop (mkF m 151 #[.val (.int p0), .val (.int p1), .val (.int p2), .val (.int p3), .val (.int p4), .val (.int lo), .val (.int hi), .val (.int (1 : Int32)), .val (.ref b21), .val (.ref b24), .val (.int (own_n2_0 lo lo hi)), .val (.int (own_n2_0 hi lo hi)), .val (.int (own_n2_0 p3 lo hi)), .val (.int (1 : Int32)), .unset] []))
          refine own_st (fun _ k => XS.iconst X30.here hx rfl (hb hby at_151) k) ?_
          show own_Go p e below _ (T30.setTop (mkF m 152 #[.val (.int p0), .val (.int p1), .val (.int p2), .val (.int p3), .val (.int p4), .val (.int lo), .val (.int hi), .val (.int (1 : Int32)), .val (.ref b21), .val (.ref b24), .val (.int (own_n2_0 lo lo hi)), .val (.int (own_n2_0 hi lo hi)), .val (.int (own_n2_0 p3 lo hi)), .val (.int (1 : Int32)), .unset] [(.int (0 : Int32))]))
          refine own_st (fun _ k => XS.istore X30.here hx rfl (hb hby at_152) rfl (l' := #[.val (.int p0), .val (.int p1), .val (.int p2), .val (.int p3), .val (.int p4), .val (.int lo), .val (.int hi), .val (.int (1 : Int32)), .val (.ref b21), .val (.ref b24), .val (.int (own_n2_0 lo lo hi)), .val (.int (own_n2_0 hi lo hi)), .val (.int (own_n2_0 p3 lo hi)), .val (.int (1 : Int32)), .val (.int (0 : Int32))]) rfl k) ?_
          show own_Go p e below _ (T30.setTop (mkF m 154 #[.val (.int p0), .val (.int p1), .val (.int p2), .val (.int p3), .val (.int p4), .val (.int lo), .val (.int hi), .val (.int (1 : Int32)), .val (.ref b21), .val (.ref b24), .val (.int (own_n2_0 lo lo hi)), .val (.int (own_n2_0 hi lo hi)), .val (.int (own_n2_0 p3 lo hi)), .val (.int (1 : Int32)), .val (.int (0 : Int32))] []))
          refine own_st (fun _ k => XS.iload X30.here hx rfl (hb hby at_154) rfl k) ?_
          show own_Go p e below _ (T30.setTop (mkF m 156 #[.val (.int p0), .val (.int p1), .val (.int p2), .val (.int p3), .val (.int p4), .val (.int lo), .val (.int hi), .val (.int (1 : Int32)), .val (.ref b21), .val (.ref b24), .val (.int (own_n2_0 lo lo hi)), .val (.int (own_n2_0 hi lo hi)), .val (.int (own_n2_0 p3 lo hi)), .val (.int (1 : Int32)), .val (.int (0 : Int32))] [(.int (own_n2_0 lo lo hi))]))
          refine own_st (fun _ k => XS.ifNo X30.here hx rfl (hb hby at_156) rfl ((own_i0 _ _).trans (own_no ((own_ne0 (own_y2 rfl)) : ¬ ((own_n2_0 lo lo hi) = (0 : Int32))))) k) ?_
          show own_Go p e below _ (T30.setTop (mkF m 159 #[.val (.int p0), .val (.int p1), .val (.int p2), .val (.int p3), .val (.int p4), .val (.int lo), .val (.int hi), .val (.int (1 : Int32)), .val (.ref b21), .val (.ref b24), .val (.int (own_n2_0 lo lo hi)), .val (.int (own_n2_0 hi lo hi)), .val (.int (own_n2_0 p3 lo hi)), .val (.int (1 : Int32)), .val (.int (0 : Int32))] []))
          refine own_st (fun _ k => XS.iload X30.here hx rfl (hb hby at_159) rfl k) ?_
          show own_Go p e below _ (T30.setTop (mkF m 161 #[.val (.int p0), .val (.int p1), .val (.int p2), .val (.int p3), .val (.int p4), .val (.int lo), .val (.int hi), .val (.int (1 : Int32)), .val (.ref b21), .val (.ref b24), .val (.int (own_n2_0 lo lo hi)), .val (.int (own_n2_0 hi lo hi)), .val (.int (own_n2_0 p3 lo hi)), .val (.int (1 : Int32)), .val (.int (0 : Int32))] [(.int (own_n2_0 hi lo hi))]))
          refine own_st (fun _ k => XS.iload X30.here hx rfl (hb hby at_161) rfl k) ?_
          show own_Go p e below _ (T30.setTop (mkF m 163 #[.val (.int p0), .val (.int p1), .val (.int p2), .val (.int p3), .val (.int p4), .val (.int lo), .val (.int hi), .val (.int (1 : Int32)), .val (.ref b21), .val (.ref b24), .val (.int (own_n2_0 lo lo hi)), .val (.int (own_n2_0 hi lo hi)), .val (.int (own_n2_0 p3 lo hi)), .val (.int (1 : Int32)), .val (.int (0 : Int32))] [(.int (1 : Int32)), (.int (own_n2_0 hi lo hi))]))
          refine own_st (fun _ k => XS.icmpNo X30.here hx rfl (hb hby at_163) rfl ((own_i2 _ _ _).trans (own_nyes ((own_y3 (fun q => hc25 q.symm) rfl) : (own_n2_0 hi lo hi) = (1 : Int32)))) k) ?_
          show own_Go p e below _ (T30.setTop (mkF m 166 #[.val (.int p0), .val (.int p1), .val (.int p2), .val (.int p3), .val (.int p4), .val (.int lo), .val (.int hi), .val (.int (1 : Int32)), .val (.ref b21), .val (.ref b24), .val (.int (own_n2_0 lo lo hi)), .val (.int (own_n2_0 hi lo hi)), .val (.int (own_n2_0 p3 lo hi)), .val (.int (1 : Int32)), .val (.int (0 : Int32))] []))
          refine own_st (fun _ k => XS.iload X30.here hx rfl (hb hby at_166) rfl k) ?_
          show own_Go p e below _ (T30.setTop (mkF m 168 #[.val (.int p0), .val (.int p1), .val (.int p2), .val (.int p3), .val (.int p4), .val (.int lo), .val (.int hi), .val (.int (1 : Int32)), .val (.ref b21), .val (.ref b24), .val (.int (own_n2_0 lo lo hi)), .val (.int (own_n2_0 hi lo hi)), .val (.int (own_n2_0 p3 lo hi)), .val (.int (1 : Int32)), .val (.int (0 : Int32))] [(.int (own_n2_0 p3 lo hi))]))
          refine own_st (fun _ k => XS.iload X30.here hx rfl (hb hby at_168) rfl k) ?_
          show own_Go p e below _ (T30.setTop (mkF m 170 #[.val (.int p0), .val (.int p1), .val (.int p2), .val (.int p3), .val (.int p4), .val (.int lo), .val (.int hi), .val (.int (1 : Int32)), .val (.ref b21), .val (.ref b24), .val (.int (own_n2_0 lo lo hi)), .val (.int (own_n2_0 hi lo hi)), .val (.int (own_n2_0 p3 lo hi)), .val (.int (1 : Int32)), .val (.int (0 : Int32))] [(.int (0 : Int32)), (.int (own_n2_0 p3 lo hi))]))
          refine own_st (fun _ k => XS.icmpNo X30.here hx rfl (hb hby at_170) rfl ((own_i2 _ _ _).trans (own_nyes ((own_z2 hc133 hc144) : (own_n2_0 p3 lo hi) = (0 : Int32)))) k) ?_
          show own_Go p e below _ (T30.setTop (mkF m 173 #[.val (.int p0), .val (.int p1), .val (.int p2), .val (.int p3), .val (.int p4), .val (.int lo), .val (.int hi), .val (.int (1 : Int32)), .val (.ref b21), .val (.ref b24), .val (.int (own_n2_0 lo lo hi)), .val (.int (own_n2_0 hi lo hi)), .val (.int (own_n2_0 p3 lo hi)), .val (.int (1 : Int32)), .val (.int (0 : Int32))] []))
          refine own_st (fun _ k => XS.iconst X30.here hx rfl (hb hby at_173) k) ?_
          show own_Go p e below _ (T30.setTop (mkF m 174 #[.val (.int p0), .val (.int p1), .val (.int p2), .val (.int p3), .val (.int p4), .val (.int lo), .val (.int hi), .val (.int (1 : Int32)), .val (.ref b21), .val (.ref b24), .val (.int (own_n2_0 lo lo hi)), .val (.int (own_n2_0 hi lo hi)), .val (.int (own_n2_0 p3 lo hi)), .val (.int (1 : Int32)), .val (.int (0 : Int32))] [(.int (1 : Int32))]))
          refine own_st (fun _ k => XS.goto X30.here hx rfl (pc0 := 174) (pc' := 178) rfl (hb hby at_174) (by decide) (by decide) k) ?_
          show own_Go p e below _ (T30.setTop (mkF m 178 #[.val (.int p0), .val (.int p1), .val (.int p2), .val (.int p3), .val (.int p4), .val (.int lo), .val (.int hi), .val (.int (1 : Int32)), .val (.ref b21), .val (.ref b24), .val (.int (own_n2_0 lo lo hi)), .val (.int (own_n2_0 hi lo hi)), .val (.int (own_n2_0 p3 lo hi)), .val (.int (1 : Int32)), .val (.int (0 : Int32))] [(.int (1 : Int32))]))
          exact own_retZ X30 hx hlk hret rfl (hb hby at_178) ⟨rfl, N0⟩ (by decide) (by decide)
set_option maxRecDepth 65536 in
set_option maxHeartbeats 40000000 in
theorem comes_1 {Post : Tables → Env → Array Value → State → Outcome → State → Prop} (hpost : ∀ tb e args s v u, (limb_1_1.after args s (.returned v) u = true ∧ limb_1_2.after args s (.returned v) u = true ∧ True) → FrameEnd s (.returned v) u (Jvm.fieldLocs frame_1_writes args s ++ Jvm.arrayLocs frame_1_arrays args s ++ Jvm.staticLocs frame_1_statics s) 16 128 → Post tb e args s (.returned v) u) :
    ArmFor flags0 classFile x code maxLocals ret World_1 tables_1 room_1 Calls_1 rest_1 Pre_1 Post := by
  intro l hfl _ _ p e ha hc hk s m args below hf hA hF happ hP
  obtain ⟨hcalls, hrest, hpre⟩ := hP
  obtain ⟨-, -, -, hnamed, -, -, -, hat⟩ := (Spec.applies_iff hf).mp happ
  obtain ⟨hg, hn⟩ := and_e (Cond.before_iff.mp (show (Jvm.Cond.and given_1 narrow_1).before args s = true from hpre))
  obtain ⟨g1, g2⟩ := and_e hg
  obtain ⟨g3, g4⟩ := and_e g2
  obtain ⟨g5, g6⟩ := and_e g4
  obtain ⟨g7, g8⟩ := and_e g6
  obtain ⟨g9, g10⟩ := and_e g8
  obtain ⟨w0, w1, w2, w3, w4, rfl⟩ : ∃ w0 w1 w2 w3 w4 : Value, args = #[w0, w1, w2, w3, w4] := by
    have hs : args.size = 5 := by simpa [Cond.value, given_1] using g1
    obtain ⟨L⟩ := args
    match L, hs with
    | [w0, w1, w2, w3, w4], _ => exact ⟨w0, w1, w2, w3, w4, rfl⟩
  have hw := fun d (hd : d ∈ tables_1) => atoms_spec (ws := Jvm.Cond.code x code maxLocals ret :: tables_1) hat d (List.mem_cons_of_mem _ hd)
  obtain ⟨i0, ei0⟩ := is_v g3
  obtain rfl : w0 = (.int i0) := Option.some.inj ei0
  obtain ⟨i1, ei1⟩ := is_v g5
  obtain rfl : w1 = (.int i1) := Option.some.inj ei1
  obtain ⟨i2, ei2⟩ := is_v g7
  obtain rfl : w2 = (.int i2) := Option.some.inj ei2
  obtain ⟨i3, ei3⟩ := is_v g9
  obtain rfl : w3 = (.int i3) := Option.some.inj ei3
  obtain ⟨i4, ei4⟩ := is_v g10
  obtain rfl : w4 = (.int i4) := Option.some.inj ei4
  obtain ⟨n, o, h1, h2, h3, _, L, rfl, ⟨rfl, N⟩, hq⟩ := rm0 l s _ hw i0 i1 i2 i3 i4 s.heap s.heap.size (Nat.le_refl _) p e ha hc hk s m _ below hf ((Spec.applies_iff_loose hf).mp happ).1 ⟨rfl, State.Warmed39.refl s, rfl⟩ trivial
  refine ⟨n, _, h1, h2, h3, hpost _ _ _ _ _ _ ⟨Cond.after_iff.mpr rfl, Cond.after_iff.mpr (eq_i res_at (Term.int_eval (1)) rfl), trivial⟩ ⟨hq.1, hq.2.1, (hq.2.2.sift fun y hy => Or.inr (N y hy)).mono (by decide) (by decide)⟩⟩
theorem main_1_1 : Claimed_1_1 := comes_1 fun _ _ _ _ _ _ h hF => ⟨h.1, hF⟩
theorem main_1_2 : Claimed_1_2 := comes_1 fun _ _ _ _ _ _ h hF => ⟨h.2.1, hF⟩
end Jvm.Pilot.@@N@@
namespace Jvm.Pilot.@@N@@
open Jvm Jvm.ClassFile Sem Op Lib Jvm.Free Jvm.Stand Jvm.Pilot.@@N@@.Jvm.D
/-! MADE BY PROGRAM (witnessworld.py) out of the Statement's table words and the real class files: 12 classes; the members and pool entries that the words name. The judged class is class 1, her method 1. -/
namespace start1
open Jvm.ClassFile
def u (s : String) : CpInfo := .utf8 (stringToUtf16 s)
/-- a pool by its gaps: so many unusable entries, then the entry; so many at the end -/
def gap : Nat → List CpInfo → List CpInfo
  | 0, r => r
  | n + 1, r => .unusable :: gap n r
def poolList (es : List (Nat × CpInfo)) (last : Nat) : List CpInfo := es.foldr (fun e r => gap e.1 (e.2 :: r)) (gap last [])
def pool (es : List (Nat × CpInfo)) (last : Nat) : Array CpInfo := ⟨poolList es last⟩
def fileOf (pool : Array CpInfo) (this : Nat) (attrs : Array Attribute := #[]) (ms : Array MethodInfo := #[]) (fl : Nat := 33) (sup : Nat := 0) (ifs : Array Nat := #[]) (fds : Array FieldInfo := #[]) : ClassFile where
  minorVersion := 0
  majorVersion := 65
  constantPool := pool
  accessFlags := fl
  thisClass := this
  superClass := sup
  interfaces := ifs
  fields := fds
  methods := ms
  attributes := attrs
def plain (name : String) (sup : Option ClassId) : Class where
  name := name
  kind := .ordinary
  loader := none
  accessFlags := 33
  super := sup
  interfaces := #[]
  cf := none
  fields := #[]
  methods := #[]
  instanceTypes := #[]
  staticTypes := #[]
  resolved := #[]
  callSites := []
  init := .initialized
  statics := none
  mirror := none

def pool0 : Array CpInfo := pool [(5, u "<init>"), (0, u "()V"), (1, .class_ 10), (1, u "java/lang/Object")] 113

def k0c0 : Code := { maxStack := 0, maxLocals := 1, code := object_method_1_code, exceptionTable := #[], attributes := #[] }
def k0m0 : Method := { name := "<init>", desc := "()V", sig := { parameters := [], returnType := none }, accessFlags := 1, code := some k0c0 }
/-- java/lang/Object -/
def k0 : Class := { plain "java/lang/Object" none with
  accessFlags := 33
  interfaces := #[]
  cf := some (fileOf pool0 8 #[] #[{ accessFlags := 1, nameIndex := 5, descriptorIndex := 6, attributes := #[] }] 33 0 #[] #[])
  fields := #[]
  methods := #[k0m0]
  instanceTypes := #[]
  staticTypes := #[]
  resolved := Array.replicate 124 none
  statics := none }

def pool1 : Array CpInfo := pool [(2, .class_ 4), (1, u "java/lang/Object"), (0, u "<init>"), (0, u "()V"), (0, .methodref 8 9), (0, .class_ 10), (0, .nameAndType 11 12), (0, u "java/lang/Math"), (0, u "min"), (0, u "(II)I"), (0, .methodref 8 14), (0, .nameAndType 15 12), (0, u "max"), (0, .class_ 17), (0, u "com/example/accordant/accordant/AliveTerms$Group"), (0, .methodref 16 19), (0, .nameAndType 5 20), (0, u "(I[I[I)V"), (0, .methodref 16 22), (0, .nameAndType 23 24), (0, u "narrows"), (0, u "(I)Z"), (0, .class_ 26), (0, u "com/example/accordant/accordant/GroupNarrowsPinLaw"), (2, u "law"), (0, u "(IIIII)Z")] 9

def k1m0 : Method := { name := "<init>", desc := "()V", sig := { parameters := [], returnType := none }, accessFlags := 1, code := none }
def k1c1 : Code := { maxStack := 8, maxLocals := 15, code := code, exceptionTable := #[], attributes := #[] }
def k1m1 : Method := { name := "law", desc := "(IIIII)Z", sig := { parameters := [.int, .int, .int, .int, .int], returnType := some .boolean }, accessFlags := 9, code := some k1c1 }
/-- com/example/accordant/accordant/GroupNarrowsPinLaw -/
def k1 : Class := { plain "com/example/accordant/accordant/GroupNarrowsPinLaw" (some 0) with
  accessFlags := 49
  interfaces := #[]
  cf := some (fileOf pool1 25 #[] #[{ accessFlags := 1, nameIndex := 5, descriptorIndex := 6, attributes := #[] }, { accessFlags := 9, nameIndex := 29, descriptorIndex := 30, attributes := #[] }] 49 2 #[] #[])
  fields := #[]
  methods := #[k1m0, k1m1]
  instanceTypes := #[]
  staticTypes := #[]
  resolved := Array.replicate 40 none
  statics := none }

def pool2 : Array CpInfo := pool [(1, .class_ 2), (0, u "java/lang/Math"), (1, .class_ 6), (1, u "java/lang/Object"), (0, u "<init>"), (0, u "()V"), (89, .class_ 100), (1, u "java/lang/Math$RandomNumberGeneratorHolder"), (71, u "negativeZeroFloatBits"), (0, u "J"), (2, u "negativeZeroDoubleBits"), (21, u "max"), (2, u "min"), (43, u "$assertionsDisabled"), (0, u "Z"), (88, u "(II)I"), (2, u "twoToTheDoubleScaleDown"), (0, u "D"), (4, u "twoToTheDoubleScaleUp"), (9, u "E"), (3, u "PI"), (2, u "TAU"), (2, u "DEGREES_TO_RADIANS"), (0, u "RADIANS_TO_DEGREES")] 94

def k2m0 : Method := { name := "<init>", desc := "()V", sig := { parameters := [], returnType := none }, accessFlags := 2, code := none }
def k2c1 : Code := { maxStack := 2, maxLocals := 2, code := jdk_29_method_65_code, exceptionTable := #[], attributes := #[] }
def k2m1 : Method := { name := "max", desc := "(II)I", sig := { parameters := [.int, .int], returnType := some .int }, accessFlags := 9, code := some k2c1 }
def k2c2 : Code := { maxStack := 2, maxLocals := 2, code := jdk_29_method_69_code, exceptionTable := #[], attributes := #[] }
def k2m2 : Method := { name := "min", desc := "(II)I", sig := { parameters := [.int, .int], returnType := some .int }, accessFlags := 9, code := some k2c2 }
/-- java/lang/Math -/
def k2 : Class := { plain "java/lang/Math" (some 0) with
  accessFlags := 49
  interfaces := #[]
  cf := some (fileOf pool2 1 #[.nestMembers #[98]] #[{ accessFlags := 2, nameIndex := 7, descriptorIndex := 8, attributes := #[] }, { accessFlags := 9, nameIndex := 198, descriptorIndex := 335, attributes := #[] }, { accessFlags := 9, nameIndex := 201, descriptorIndex := 335, attributes := #[] }] 49 4 #[] #[{ accessFlags := 25, nameIndex := 354, descriptorIndex := 339, attributes := #[] }, { accessFlags := 25, nameIndex := 358, descriptorIndex := 339, attributes := #[] }, { accessFlags := 25, nameIndex := 361, descriptorIndex := 339, attributes := #[] }, { accessFlags := 26, nameIndex := 364, descriptorIndex := 339, attributes := #[] }, { accessFlags := 26, nameIndex := 365, descriptorIndex := 339, attributes := #[] }, { accessFlags := 26, nameIndex := 172, descriptorIndex := 173, attributes := #[] }, { accessFlags := 26, nameIndex := 176, descriptorIndex := 173, attributes := #[] }, { accessFlags := 8, nameIndex := 344, descriptorIndex := 339, attributes := #[] }, { accessFlags := 8, nameIndex := 338, descriptorIndex := 339, attributes := #[] }, { accessFlags := 4120, nameIndex := 245, descriptorIndex := 246, attributes := #[] }])
  fields := #[{ name := "E", type := .double, accessFlags := 25, slot := 0, constantValue := 0 }, { name := "PI", type := .double, accessFlags := 25, slot := 1, constantValue := 0 }, { name := "TAU", type := .double, accessFlags := 25, slot := 2, constantValue := 0 }, { name := "DEGREES_TO_RADIANS", type := .double, accessFlags := 26, slot := 3, constantValue := 0 }, { name := "RADIANS_TO_DEGREES", type := .double, accessFlags := 26, slot := 4, constantValue := 0 }, { name := "negativeZeroFloatBits", type := .long, accessFlags := 26, slot := 5, constantValue := 0 }, { name := "negativeZeroDoubleBits", type := .long, accessFlags := 26, slot := 6, constantValue := 0 }, { name := "twoToTheDoubleScaleUp", type := .double, accessFlags := 8, slot := 7, constantValue := 0 }, { name := "twoToTheDoubleScaleDown", type := .double, accessFlags := 8, slot := 8, constantValue := 0 }, { name := "$assertionsDisabled", type := .boolean, accessFlags := 4120, slot := 9, constantValue := 0 }]
  methods := #[k2m0, k2m1, k2m2]
  instanceTypes := #[]
  staticTypes := #[.double, .double, .double, .double, .double, .long, .long, .double, .double, .boolean]
  resolved := Array.replicate 460 none
  statics := none }

def pool3 : Array CpInfo := pool [(1, .methodref 2 3), (0, .class_ 4), (0, .nameAndType 5 6), (0, u "java/lang/Object"), (0, u "<init>"), (0, u "()V"), (0, .long 18446744073709551615), (1, .fieldref 10 11), (0, .class_ 12), (0, .nameAndType 13 14), (0, u "com/example/accordant/accordant/AliveTerms$Group"), (0, u "sums"), (0, u "[J"), (0, .fieldref 10 16), (0, .nameAndType 17 18), (0, u "party"), (0, u "I"), (0, .fieldref 10 20), (0, .nameAndType 21 22), (0, u "issues"), (0, u "[I"), (0, .fieldref 10 24), (0, .nameAndType 25 22), (0, u "terms"), (2, u "kept"), (0, u "[Lcom/example/accordant/accordant/AliveTerms$Group$Kept;"), (2, u "KEYS"), (2, u "(I[I[I)V"), (4, u "narrows"), (0, u "(I)Z"), (11, .class_ 54), (0, u "com/example/accordant/accordant/AliveTerms")] 3

def k3c0 : Code := { maxStack := 6, maxLocals := 4, code := prog_4_method_1_code, exceptionTable := #[], attributes := #[] }
def k3m0 : Method := { name := "<init>", desc := "(I[I[I)V", sig := { parameters := [.int, (.array .int), (.array .int)], returnType := none }, accessFlags := 0, code := some k3c0 }
def k3c1 : Code := { maxStack := 2, maxLocals := 2, code := prog_4_method_5_code, exceptionTable := #[], attributes := #[] }
def k3m1 : Method := { name := "narrows", desc := "(I)Z", sig := { parameters := [.int], returnType := some .boolean }, accessFlags := 0, code := some k3c1 }
/-- com/example/accordant/accordant/AliveTerms$Group -/
def k3 : Class := { plain "com/example/accordant/accordant/AliveTerms$Group" (some 0) with
  accessFlags := 48
  interfaces := #[]
  cf := some (fileOf pool3 10 #[.nestHost 53] #[{ accessFlags := 0, nameIndex := 5, descriptorIndex := 35, attributes := #[] }, { accessFlags := 0, nameIndex := 40, descriptorIndex := 41, attributes := #[] }] 48 2 #[] #[{ accessFlags := 18, nameIndex := 17, descriptorIndex := 18, attributes := #[] }, { accessFlags := 18, nameIndex := 21, descriptorIndex := 22, attributes := #[] }, { accessFlags := 18, nameIndex := 25, descriptorIndex := 22, attributes := #[] }, { accessFlags := 26, nameIndex := 32, descriptorIndex := 18, attributes := #[] }, { accessFlags := 2, nameIndex := 28, descriptorIndex := 29, attributes := #[] }, { accessFlags := 18, nameIndex := 13, descriptorIndex := 14, attributes := #[] }])
  fields := #[{ name := "party", type := .int, accessFlags := 18, slot := 0, constantValue := 0 }, { name := "issues", type := (.array .int), accessFlags := 18, slot := 1, constantValue := 0 }, { name := "terms", type := (.array .int), accessFlags := 18, slot := 2, constantValue := 0 }, { name := "KEYS", type := .int, accessFlags := 26, slot := 0, constantValue := 0 }, { name := "kept", type := (.array (.object "com/example/accordant/accordant/AliveTerms$Group$Kept")), accessFlags := 2, slot := 3, constantValue := 0 }, { name := "sums", type := (.array .long), accessFlags := 18, slot := 4, constantValue := 0 }]
  methods := #[k3m0, k3m1]
  instanceTypes := #[.int, (.array .int), (.array .int), (.array (.object "com/example/accordant/accordant/AliveTerms$Group$Kept")), (.array .long)]
  staticTypes := #[.int]
  resolved := Array.replicate 58 none
  statics := none }

def pool4 : Array CpInfo := pool [(1, u "java/lang/Cloneable"), (0, .class_ 1), (0, u "java/lang/Object"), (0, .class_ 3)] 3

/-- java/lang/Cloneable -/
def k4 : Class := { plain "java/lang/Cloneable" (some 0) with
  accessFlags := 1537
  interfaces := #[]
  cf := some (fileOf pool4 2 #[] #[] 1537 4 #[] #[])
  fields := #[]
  methods := #[]
  instanceTypes := #[]
  staticTypes := #[]
  resolved := Array.replicate 8 none
  statics := none }

def pool5 : Array CpInfo := pool [(1, u "java/io/Serializable"), (0, .class_ 1), (0, u "java/lang/Object"), (0, .class_ 3)] 3

/-- java/io/Serializable -/
def k5 : Class := { plain "java/io/Serializable" (some 0) with
  accessFlags := 1537
  interfaces := #[]
  cf := some (fileOf pool5 2 #[] #[] 1537 4 #[] #[])
  fields := #[]
  methods := #[]
  instanceTypes := #[]
  staticTypes := #[]
  resolved := Array.replicate 8 none
  statics := none }

/-- the primitive byte -/
def k6 : Class := { plain "byte" none with kind := .primitive 'B', accessFlags := 0x411 }
/-- [B -/
def k7 : Class := { plain "[B" (some 0) with kind := .array 6 .byte, interfaces := #[4, 5], accessFlags := 1041 }

/-- the primitive int -/
def k8 : Class := { plain "int" none with kind := .primitive 'I', accessFlags := 0x411 }
/-- [I -/
def k9 : Class := { plain "[I" (some 0) with kind := .array 8 .int, interfaces := #[4, 5], accessFlags := 1041 }

/-- the primitive long -/
def k10 : Class := { plain "long" none with kind := .primitive 'J', accessFlags := 0x411 }
/-- [J -/
def k11 : Class := { plain "[J" (some 0) with kind := .array 10 .long, interfaces := #[4, 5], accessFlags := 1041 }

def heap : Heap := #[]
def classes : Array Class := #[k0, k1, k2, k3, k4, k5, k6, k7, k8, k9, k10, k11]
def interned : List (Array UInt16 × Addr) := []
def slotsUsed : Nat := 0
def theMethod : MethodId := ⟨1, 1⟩
def args0 : Array Value := #[.int 5, .int 3, .int 8, .int 1, .int 2]
def aboutOver (below : List Frame) : State where
  vm := { classes := classes, interned := interned.toArray }
  heap := heap
  slotsUsed := slotsUsed
  threads := #[{ frames := .invoking theMethod args0 :: below }]
def below0 : List Frame := [.native { method := ⟨0, 0⟩, args := #[] }]
def about1 : State := aboutOver below0
def p0 : Program := .bare "" "" ""
def e0 : Env := launch0.env 0 0 0
theorem w_frames : about1.frames = Frame.invoking theMethod args0 :: below0 := rfl
set_option maxRecDepth 65536 in
theorem w_args : argsFit about1.vm theMethod args0 = true := by decide +kernel
set_option maxRecDepth 65536 in
theorem w_heap : heapFits about1 = true := by decide +kernel
set_option maxRecDepth 65536 in
theorem w_runnable : about1.curStatus? = some .runnable := by decide +kernel
set_option maxRecDepth 65536 in
theorem w_alone : about1.alone = true := by decide +kernel
set_option maxRecDepth 65536 in
theorem w_named : about1.methodNamed? x = some theMethod := by decide +kernel
set_option maxRecDepth 65536 in
theorem w_hears : about1.hears theMethod below0 = true := by decide +kernel
set_option maxRecDepth 65536 in
theorem w_ripe : about1.ripe theMethod args0 below0 = true := by decide +kernel
theorem w_running : about1.status = .running := rfl
set_option maxRecDepth 65536 in
theorem w_room : about1.hasRoom e0.platform room_1 = true :=
  launch0.hasRoom_least _ room_1 (by decide +kernel) (by decide +kernel) (by decide +kernel) (by decide +kernel) (by decide +kernel) (by decide +kernel)
theorem allAtoms_all (ts : List Jvm.Cond) (a : Array Jvm.Value) (st : Jvm.State) : (allAtoms ts).before a st = ts.all (fun c => c.before a st) := by
  induction ts with
  | nil => rfl
  | cons c t ih =>
    show (Jvm.Cond.and c (allAtoms t)).before a st = _
    rw [Jvm.Cond.before_and, ih, List.all_cons]
def words1 : List Jvm.Cond := Jvm.Cond.code x code maxLocals ret :: tables_1
/-- a 'code' word, met by the world's own term for the bytes: nothing is compared byte by byte -/
theorem code_word {y : MethodName} {bytes : ByteArray} {mx : Nat} {rt : Option FieldType} {a : Array Value} {s : State} {m : MethodId} {meth : Method} {c : Code} (h1 : s.methodNamed? y = some m) (h2 : s.vm.method? m = some meth) (h3 : meth.code = some c) (h4 : c.code = bytes)
    (h5 : (c.maxLocals == mx && c.exceptionTable.isEmpty && decide (c.maxStack ≤ mostOperands) && decide (meth.sig.returnType = rt) && !meth.locks && decide (parseMethodDescriptor y.desc = some meth.sig)) = true) : (Jvm.Cond.code y bytes mx rt).before a s = true := by
  simp only [Bool.and_eq_true, beq_iff_eq, Bool.not_eq_true', decide_eq_true_eq] at h5
  obtain ⟨⟨⟨⟨⟨g1, g2⟩, g3⟩, g4⟩, g5⟩, g6⟩ := h5
  simp [Cond.before, Cond.holds, Cond.value, h1, h2, h3, h4, g1, g2, g3, g4, g5, g6]
def isCode : Jvm.Cond → Bool
  | .code _ _ _ _ => true
  | _ => false
theorem all_split {L : List Jvm.Cond} {P : Jvm.Cond → Bool} (h1 : L.all (fun c => isCode c || P c) = true) (h2 : ∀ c ∈ L.filter isCode, P c = true) : L.all P = true := by
  refine List.all_eq_true.mpr fun c hc => ?_
  have h := List.all_eq_true.mp h1 c hc
  rcases Bool.eq_false_or_eq_true (isCode c) with hi | hi
  · exact h2 c (List.mem_filter.mpr ⟨hc, hi⟩)
  · simpa [hi] using h
set_option maxRecDepth 65536 in
theorem w_c0 : (Jvm.Cond.code x code maxLocals ret).before args0 about1 = true := code_word (m := ⟨1, 1⟩) (meth := k1m1) (c := k1c1) (by decide +kernel) rfl rfl rfl (by decide +kernel)
set_option maxRecDepth 65536 in
theorem w_c1 : (Jvm.Cond.code ({ cls := "java/lang/Math", name := "min", desc := "(II)I" } : Jvm.MethodName) jdk_29_method_69_code (2 : Nat) (Option.some Jvm.ClassFile.FieldType.int)).before args0 about1 = true := code_word (m := ⟨2, 2⟩) (meth := k2m2) (c := k2c2) (by decide +kernel) rfl rfl rfl (by decide +kernel)
set_option maxRecDepth 65536 in
theorem w_c2 : (Jvm.Cond.code ({ cls := "java/lang/Math", name := "max", desc := "(II)I" } : Jvm.MethodName) jdk_29_method_65_code (2 : Nat) (Option.some Jvm.ClassFile.FieldType.int)).before args0 about1 = true := code_word (m := ⟨2, 1⟩) (meth := k2m1) (c := k2c1) (by decide +kernel) rfl rfl rfl (by decide +kernel)
set_option maxRecDepth 65536 in
theorem w_c3 : (Jvm.Cond.code ({ cls := "com/example/accordant/accordant/AliveTerms$Group", name := "<init>", desc := "(I[I[I)V" } : Jvm.MethodName) prog_4_method_1_code (4 : Nat) (Option.none : Option Jvm.ClassFile.FieldType)).before args0 about1 = true := code_word (m := ⟨3, 0⟩) (meth := k3m0) (c := k3c0) (by decide +kernel) rfl rfl rfl (by decide +kernel)
set_option maxRecDepth 65536 in
theorem w_c4 : (Jvm.Cond.code ({ cls := "java/lang/Object", name := "<init>", desc := "()V" } : Jvm.MethodName) object_method_1_code (1 : Nat) (Option.none : Option Jvm.ClassFile.FieldType)).before args0 about1 = true := code_word (m := ⟨0, 0⟩) (meth := k0m0) (c := k0c0) (by decide +kernel) rfl rfl rfl (by decide +kernel)
set_option maxRecDepth 65536 in
theorem w_c5 : (Jvm.Cond.code ({ cls := "com/example/accordant/accordant/AliveTerms$Group", name := "narrows", desc := "(I)Z" } : Jvm.MethodName) prog_4_method_5_code (2 : Nat) (Option.some Jvm.ClassFile.FieldType.boolean)).before args0 about1 = true := code_word (m := ⟨3, 1⟩) (meth := k3m1) (c := k3c1) (by decide +kernel) rfl rfl rfl (by decide +kernel)
def codes1 : List Jvm.Cond := [Jvm.Cond.code x code maxLocals ret, Jvm.Cond.code ({ cls := "java/lang/Math", name := "min", desc := "(II)I" } : Jvm.MethodName) jdk_29_method_69_code (2 : Nat) (Option.some Jvm.ClassFile.FieldType.int), Jvm.Cond.code ({ cls := "java/lang/Math", name := "max", desc := "(II)I" } : Jvm.MethodName) jdk_29_method_65_code (2 : Nat) (Option.some Jvm.ClassFile.FieldType.int), Jvm.Cond.code ({ cls := "com/example/accordant/accordant/AliveTerms$Group", name := "<init>", desc := "(I[I[I)V" } : Jvm.MethodName) prog_4_method_1_code (4 : Nat) (Option.none : Option Jvm.ClassFile.FieldType), Jvm.Cond.code ({ cls := "java/lang/Object", name := "<init>", desc := "()V" } : Jvm.MethodName) object_method_1_code (1 : Nat) (Option.none : Option Jvm.ClassFile.FieldType), Jvm.Cond.code ({ cls := "com/example/accordant/accordant/AliveTerms$Group", name := "narrows", desc := "(I)Z" } : Jvm.MethodName) prog_4_method_5_code (2 : Nat) (Option.some Jvm.ClassFile.FieldType.boolean)]
set_option maxRecDepth 65536 in
theorem codes_eq : words1.filter isCode = codes1 := rfl
theorem w_codes : ∀ c ∈ words1.filter isCode, c.before args0 about1 = true := by
  rw [codes_eq]
  intro c hc
  simp only [codes1, List.mem_cons, List.not_mem_nil, or_false] at hc
  rcases hc with rfl | rfl | rfl | rfl | rfl | rfl
  · exact w_c0
  · exact w_c1
  · exact w_c2
  · exact w_c3
  · exact w_c4
  · exact w_c5
set_option maxRecDepth 65536 in
theorem w_t1 : (words1.take 24).all (fun c => isCode c || c.before args0 about1) = true := by decide +kernel
set_option maxRecDepth 65536 in
theorem w_t2 : (words1.drop 24).all (fun c => isCode c || c.before args0 about1) = true := by decide +kernel
theorem w_tables : (allAtoms (Jvm.Cond.code x code maxLocals ret :: tables_1)).before args0 about1 = true := by
  rw [allAtoms_all]
  show words1.all (fun c => c.before args0 about1) = true
  refine all_split ?_ w_codes
  rw [← List.take_append_drop 24 words1, List.all_append, w_t1, w_t2]
  rfl
set_option maxRecDepth 65536 in
theorem w_case : (Jvm.Cond.and given_1 narrow_1).before args0 about1 = true := by decide +kernel
theorem w_applies : (headSpec (Jvm.Cond.code x code maxLocals ret :: tables_1) room_1).applies x e0.platform about1 = true :=
  (Spec.applies_iff w_frames).mpr ⟨w_running, w_runnable, w_alone, w_named, w_hears, w_ripe, w_room, w_tables⟩
theorem atStart : AtStart classFile x code maxLocals ret World_1 tables_1 room_1 Calls_1 rest_1 Pre_1 launch0 p0 e0 about1 theMethod args0 below0 :=
  ⟨lists_1, trivial, launch0.admits_env _ _ _, launch0.least_env, fairChoices_fair.cas, fairChoices_fair.clock, w_frames, w_args, w_heap, w_applies, trivial, trivial, w_case⟩
end start1
theorem witness_1 : WitnessClaimed_1 := ⟨start1.p0, start1.e0, start1.about1, start1.theMethod, start1.args0, start1.below0, start1.atStart⟩
end Jvm.Pilot.@@N@@
