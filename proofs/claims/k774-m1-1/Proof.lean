import JvmDerived
import JvmDerived.Pilot.@@N@@Statement
import JvmDerived.Pilot.@@N@@Code
set_option linter.unusedVariables false
set_option linter.unusedSimpArgs false
namespace Jvm.Pilot.@@N@@
open Jvm Jvm.ClassFile Sem Op Lib Jvm.Free Jvm.Stand Jvm.LawKit Jvm.RoadKit Bundle Jvm.Pilot.@@N@@.Jvm.D
section OwnKit
variable {p : Program} {l : Launch} {e : Env} {R : Room} {s : State} {m : MethodId} {args : Array Value} {below : List Frame} {meth : Method} {c : Code} {T : State} {locs : List Loc} {cells slots : Nat} {Z : State} {a0 : Array Value} {h : Heap}
/-- from the state U on the run comes to an end of which Q holds -/
def own_Go (p : Program) (e : Env) (below : List Frame) (Q : Outcome → State → Prop) (U : State) : Prop :=
  ∃ u o, Steps p.tables e below U u ∧ u.status = .running ∧ Ended u below o ∧ Q o u
theorem own_st {Q : Outcome → State → Prop} {U V : State} (k : ∀ t, Steps p.tables e below V t → Steps p.tables e below U t) (q : own_Go p e below Q V) : own_Go p e below Q U := by
  obtain ⟨u, o, h1, h2⟩ := q
  exact ⟨u, o, k _ h1, h2⟩
theorem own_tr {Q : Outcome → State → Prop} {U V : State} (k : Steps p.tables e below U V) (q : own_Go p e below Q V) : own_Go p e below Q U := by
  obtain ⟨u, o, h1, h2⟩ := q
  exact ⟨u, o, k.trans h1, h2⟩
/-- what a body leaves, said of its end -/
abbrev own_Post (s : State) (Qc : Option Value → Heap → List Loc → Prop) (k n : Nat) : Outcome → State → Prop := fun o u => ∃ v L, o = .returned v ∧ Qc v u.heap L ∧ FrameEnd s o u L k n
theorem own_body {y : MethodName} {bytes : ByteArray} {maxL : Nat} {ret : Option FieldType} {ws : List Jvm.Cond} {rm : Room} {as' : Array Value} {h0 : Heap} {Qc : Option Value → Heap → List Loc → Prop} {k n : Nat} (hpl : plainFor y = true)
    (body : ∀ (p : Program) (e : Env) (s : State) (m : MethodId) (below : List Frame) (meth : Method) (c : Code) (s₁ : State), Stand p l e rm s m as' below meth c s₁ [] 0 0 → p.tables.exec = Jvm.exec → Z.Warmed39 s.vm → c.code = bytes → c.maxLocals = maxL → s.vm.findClass y.cls = some m.cls →
      meth.sig.returnType = ret → meth.locks = false → meth.name = y.name → s₁.heap = h0 → own_Go p e below (own_Post s Qc k n) (s₁.setTop (entryFrame m as' maxL))) :
    MetFree l y (head1 (Jvm.Cond.code y bytes maxL ret :: ws) rm) (fun a U => a = as' ∧ Z.Warmed39 U.vm ∧ U.heap = h0) (fun _ _ _ _ _ => True) (fun _ U o U' => own_Post U Qc k n o U') := by
  refine MetFree.of_bodySF hpl hisR ?_
  intro p e s m args below meth c s₁ Bd hml0 hP hK
  obtain ⟨rfl, hZ, hh⟩ := hP
  exact body p e s m below meth c s₁ (Stand.of_body Bd) Bd.exec hZ Bd.bytes hml0 (findClass_of_methodNamed Bd.named) Bd.returns Bd.notSynchronized (name_of_methodNamed Bd.named Bd.method).1 (by rw [← hh, Bd.state]; rfl)
theorem own_end {Qc : Option Value → Heap → List Loc → Prop} {k n : Nat} {v : Option Value} (X : Stand p l e R s m args below meth c T locs cells slots) (hlk : meth.locks = false) (hv : meth.sig.returnType = none → v = none) {g : JFrame}
    (hst : ∀ fs, (∀ (f : JFrame) (acts : List Action), f.method = m → f.locked = none → f.entered = [] → (doReturn e (T.setTop f) acts v).1 = T.setFrames fs) → Steps p.tables e below (T.setTop g) (T.setFrames fs))
    (hQ : Qc v T.heap locs) (hk : cells ≤ k) (hn : slots ≤ n) : own_Go p e below (own_Post s Qc k n) (T.setTop g) := by
  obtain ⟨fs, hr, hrun, hended, hW, hsame⟩ := X.leave (v := v) hv hlk
  exact ⟨_, _, hst fs hr, hrun, hended, _, _, rfl, hQ, ⟨_, rfl⟩, hW, hsame.mono hk hn⟩
theorem own_retI {Qc : Option Value → Heap → List Loc → Prop} {k n : Nat} (X : Stand p l e R s m args below meth c T locs cells slots) (hx : p.tables.exec = Jvm.exec) (hlk : meth.locks = false) (hret : meth.sig.returnType = some .int) {pc : Nat} {Ls : Array Slot} {z : Int32} {rest : List Value}
    (hd : decode c.code pc = .ok (.ireturn, 1)) (hQ : Qc (some (.int z)) T.heap locs) (hk : cells ≤ k) (hn : slots ≤ n) : own_Go p e below (own_Post s Qc k n) (T.setTop (mkF m pc Ls (.int z :: rest))) :=
  own_end X hlk (fun q => by rw [hret] at q; cases q) (fun fs hr => retOut X hx hret (w := .int z) (t := .int) rfl (Or.inl ⟨rfl, Or.inl rfl, z, rfl⟩) hd hr) hQ hk hn
theorem own_retZ {Qc : Option Value → Heap → List Loc → Prop} {k n : Nat} (X : Stand p l e R s m args below meth c T locs cells slots) (hx : p.tables.exec = Jvm.exec) (hlk : meth.locks = false) (hret : meth.sig.returnType = some .boolean) {pc : Nat} {Ls : Array Slot} {z : Int32} {rest : List Value}
    (hz : narrow .boolean (.int z) = .int z) (hd : decode c.code pc = .ok (.ireturn, 1)) (hQ : Qc (some (.int z)) T.heap locs) (hk : cells ≤ k) (hn : slots ≤ n) : own_Go p e below (own_Post s Qc k n) (T.setTop (mkF m pc Ls (.int z :: rest))) :=
  own_end X hlk (fun q => by rw [hret] at q; cases q) (fun fs hr => retOut X hx hret (w := .int z) (t := .boolean) hz (Or.inl ⟨rfl, Or.inr (Or.inl rfl), z, rfl⟩) hd hr) hQ hk hn
theorem own_retJ {Qc : Option Value → Heap → List Loc → Prop} {k n : Nat} (X : Stand p l e R s m args below meth c T locs cells slots) (hx : p.tables.exec = Jvm.exec) (hlk : meth.locks = false) (hret : meth.sig.returnType = some .long) {pc : Nat} {Ls : Array Slot} {z : Int64} {rest : List Value}
    (hd : decode c.code pc = .ok (.lreturn, 1)) (hQ : Qc (some (.long z)) T.heap locs) (hk : cells ≤ k) (hn : slots ≤ n) : own_Go p e below (own_Post s Qc k n) (T.setTop (mkF m pc Ls (.long z :: rest))) :=
  own_end X hlk (fun q => by rw [hret] at q; cases q) (fun fs hr => retOut X hx hret (w := .long z) (t := .long) rfl (Or.inr (Or.inl ⟨rfl, rfl, z, rfl⟩)) hd hr) hQ hk hn
theorem own_retA {Qc : Option Value → Heap → List Loc → Prop} {k n : Nat} (X : Stand p l e R s m args below meth c T locs cells slots) (hx : p.tables.exec = Jvm.exec) (hlk : meth.locks = false) {t : FieldType} (hret : meth.sig.returnType = some t) (ht : t.isReference = true) {pc : Nat} {Ls : Array Slot} {w : Value} (hw : w.isRef = true)
    (hd : decode c.code pc = .ok (.areturn, 1)) (hQ : Qc (some w) T.heap locs) (hk : cells ≤ k) (hn : slots ≤ n) : own_Go p e below (own_Post s Qc k n) (T.setTop (mkF m pc Ls [w])) :=
  own_end X hlk (fun q => by rw [hret] at q; cases q) (fun fs hr => X.areturnOut hx hw hret ht hd hr) hQ hk hn
theorem own_retV {Qc : Option Value → Heap → List Loc → Prop} {k n : Nat} (X : Stand p l e R s m args below meth c T locs cells slots) (hx : p.tables.exec = Jvm.exec) (hlk : meth.locks = false) (hret : meth.sig.returnType = none) {pc : Nat} {Ls : Array Slot}
    (hd : decode c.code pc = .ok (.return_, 1)) (hQ : Qc none T.heap locs) (hk : cells ≤ k) (hn : slots ≤ n) : own_Go p e below (own_Post s Qc k n) (T.setTop (mkF m pc Ls [])) :=
  own_end X hlk (fun _ => rfl) (fun fs hr => X.returnOut hx hret hd hr) hQ hk hn
/-- a callee's contract, as own_body proves it and the three calls below spend it -/
abbrev own_Met (l : Launch) (Z : State) (y : MethodName) (bytes : ByteArray) (maxL : Nat) (ret : Option FieldType) (rm : Room) (as' : Array Value) (h0 : Heap) (Qc : Option Value → Heap → List Loc → Prop) : Prop :=
  MetFree l y (head1 [Jvm.Cond.code y bytes maxL ret] rm) (fun a U => a = as' ∧ Z.Warmed39 U.vm ∧ U.heap = h0) (fun _ _ _ _ _ => True) (fun _ U o U' => own_Post U Qc rm.cells rm.slots o U')
theorem own_callS (X : Stand p l e R s m args below meth c T locs cells slots) (hx : p.tables.exec = Jvm.exec) (hZ : Z.Warmed39 s.vm) {own : String} {index : Nat} {y : MethodName} {bytes : ByteArray} {maxL : Nat} {ret : Option FieldType} {rm : Room} {Qc : Option Value → Heap → List Loc → Prop} {argsL rest : List Value} {ps : List FieldType} {W : Nat} {g : JFrame}
    (hM : own_Met l Z y bytes maxL ret rm argsL.toArray h Qc) (hown : s.vm.findClass own = some m.cls) (w1 : (Jvm.Cond.methodLink own index y).before a0 Z = true) (w2 : (Jvm.Cond.static y).before a0 Z = true) (w3 : (Jvm.Cond.initialized y.cls).before a0 Z = true) (w4 : (Jvm.Cond.code y bytes maxL ret).before a0 Z = true)
    (hy : y.cls ≠ "java/lang/invoke/MethodHandle" ∧ y.cls ≠ "java/lang/invoke/VarHandle") (eT : T.heap = h) (hg : g.method = m) (hsize : g.locals.size = c.maxLocals) (hdesc : parseMethodDescriptor y.desc = some ⟨ps, ret⟩) (hlen : argsL.length = ps.length) (hstack : g.stack = argsL.reverse ++ rest)
    (hW : 2 * g.monitorRoom + (rest.map fun v => v.category).sum ≤ W) (hdg : decode c.code g.pc = .ok (.invokestatic index, 3)) (hf : rm.frames + 1 ≤ R.frames) (hl : W + (maxL + 11) + rm.locals ≤ R.locals) (hc : cells + rm.cells ≤ R.cells) (hs : slots + rm.slots ≤ R.slots) :
    ∃ v T' L, Stand p l e R s m args below meth c T' (locs ++ L) (cells + rm.cells) (slots + rm.slots) ∧ Qc v T'.heap L ∧ ∀ target, Steps p.tables e below (T'.setTop { g with pc := g.pc + 3, stack := v.toList ++ rest }) target → Steps p.tables e below (T.setTop g) target := by
  obtain ⟨v, _, ⟨T1, L1, k1, n1⟩, -, X1, ⟨L, hQ, q1, q2, q3⟩, st⟩ := Jvm.LawKit.callS X hx (y := y) hown (mvT hZ w1) (mvT hZ w2) (mvT hZ w3) (mvT hZ w4) hy (backOf (W := W) hM hZ w4 w3 hf hl) (g := g) hg hsize (lenOf hdesc hlen) hstack hW hdg (fun _ _ => ⟨rfl, eT, hc, hs⟩)
  dsimp only [Pt.U, Pt.locs, Pt.cells, Pt.slots] at X1 q1 q2 q3 st hQ
  subst q1 q2 q3
  exact ⟨v, T1, L, X1, hQ, st⟩
theorem own_callI (X : Stand p l e R s m args below meth c T locs cells slots) (hx : p.tables.exec = Jvm.exec) (hZ : Z.Warmed39 s.vm) {own : String} {index : Nat} {y : MethodName} {bytes : ByteArray} {maxL : Nat} {rm : Room} {Qc : Option Value → Heap → List Loc → Prop} {a : Addr} {argsL rest : List Value} {ps : List FieldType} {W : Nat} {g : JFrame}
    (hM : own_Met l Z y bytes maxL none rm (.ref a :: argsL).toArray h Qc) (hn : y.name = "<init>") (hown : s.vm.findClass own = some m.cls) (w1 : (Jvm.Cond.methodLink own index y).before a0 Z = true) (w2 : (Jvm.Cond.instanceMethod y).before a0 Z = true) (w3 : (Jvm.Cond.initialized y.cls).before a0 Z = true) (w4 : (Jvm.Cond.code y bytes maxL none).before a0 Z = true)
    (hy : y.cls ≠ "java/lang/invoke/MethodHandle" ∧ y.cls ≠ "java/lang/invoke/VarHandle") (eT : T.heap = h) (hg : g.method = m) (hsize : g.locals.size = c.maxLocals) (hdesc : parseMethodDescriptor y.desc = some ⟨ps, none⟩) (hlen : argsL.length = ps.length) (hstack : g.stack = argsL.reverse ++ .ref a :: rest)
    (hW : 2 * g.monitorRoom + (rest.map fun v => v.category).sum ≤ W) (hdg : decode c.code g.pc = .ok (.invokespecial index, 3)) (hf : rm.frames + 1 ≤ R.frames) (hl : W + (maxL + 11) + rm.locals ≤ R.locals) (hc : cells + rm.cells ≤ R.cells) (hs : slots + rm.slots ≤ R.slots) :
    ∃ v T' L, Stand p l e R s m args below meth c T' (locs ++ L) (cells + rm.cells) (slots + rm.slots) ∧ Qc v T'.heap L ∧ ∀ target, Steps p.tables e below (T'.setTop { g with pc := g.pc + 3, stack := v.toList ++ rest }) target → Steps p.tables e below (T.setTop g) target := by
  obtain ⟨v, _, ⟨T1, L1, k1, n1⟩, -, X1, ⟨L, hQ, q1, q2, q3⟩, st⟩ := X.specialBack hx (y := y) hn hown (mvT hZ w1) (mvT hZ w2) (mvT hZ w4) hy (backOf (W := W) hM hZ w4 w3 hf hl) (g := g) hg hsize (Steps.refl _) (a := a) (lenOf hdesc hlen) hstack hW hdg (fun _ _ => ⟨rfl, eT, hc, hs⟩)
  dsimp only [Pt.U, Pt.locs, Pt.cells, Pt.slots] at X1 q1 q2 q3 st hQ
  subst q1 q2 q3
  exact ⟨v, T1, L, X1, hQ, fun _ q => st.trans q⟩
theorem own_callV (X : Stand p l e R s m args below meth c T locs cells slots) (hx : p.tables.exec = Jvm.exec) (hZ : Z.Warmed39 s.vm) {own : String} {index : Nat} {y : MethodName} {bytes : ByteArray} {maxL : Nat} {ret : Option FieldType} {rm : Room} {Qc : Option Value → Heap → List Loc → Prop} {a : Addr} {argsL rest : List Value} {ps : List FieldType} {W : Nat} {g : JFrame}
    (hM : own_Met l Z y bytes maxL ret rm (.ref a :: argsL).toArray h Qc) (E : Exa Z h a y.cls) (hown : s.vm.findClass own = some m.cls) (w1 : (Jvm.Cond.methodLink own index y).before a0 Z = true) (w2 : (Jvm.Cond.declares y).before a0 Z = true) (w3 : (Jvm.Cond.selects y.cls y y).before a0 Z = true) (w4 : (Jvm.Cond.instanceMethod y).before a0 Z = true) (w5 : (Jvm.Cond.initialized y.cls).before a0 Z = true) (w6 : (Jvm.Cond.code y bytes maxL ret).before a0 Z = true)
    (hy : y.cls ≠ "java/lang/invoke/MethodHandle" ∧ y.cls ≠ "java/lang/invoke/VarHandle") (eT : T.heap = h) (hg : g.method = m) (hsize : g.locals.size = c.maxLocals) (hdesc : parseMethodDescriptor y.desc = some ⟨ps, ret⟩) (hlen : argsL.length = ps.length) (hstack : g.stack = argsL.reverse ++ .ref a :: rest)
    (hW : 2 * g.monitorRoom + (rest.map fun v => v.category).sum ≤ W) (hdg : decode c.code g.pc = .ok (.invokevirtual index, 3)) (hf : rm.frames + 1 ≤ R.frames) (hl : W + (maxL + 11) + rm.locals ≤ R.locals) (hc : cells + rm.cells ≤ R.cells) (hs : slots + rm.slots ≤ R.slots) :
    ∃ v T' L, Stand p l e R s m args below meth c T' (locs ++ L) (cells + rm.cells) (slots + rm.slots) ∧ Qc v T'.heap L ∧ ∀ target, Steps p.tables e below (T'.setTop { g with pc := g.pc + 3, stack := v.toList ++ rest }) target → Steps p.tables e below (T.setTop g) target := by
  obtain ⟨cq, kq, qa, qb, qc⟩ := isOf hZ eT E
  obtain ⟨v, _, ⟨T1, L1, k1, n1⟩, -, X1, ⟨L, hQ, q1, q2, q3⟩, st⟩ := X.virtualBack hx (y := y) (z := y) hown (mvT hZ w1) (mvT hZ w2) (notFace_of_selects (args := #[]) (mvT hZ w3)) (mvT hZ w3) (mvT hZ w4) hy (backOf (W := W) hM hZ w6 w5 hf hl) qa qc (g := g) hg hsize (Steps.refl _) (lenOf hdesc hlen) hstack hW hdg (fun _ _ => ⟨rfl, eT, hc, hs⟩)
  dsimp only [Pt.U, Pt.locs, Pt.cells, Pt.slots] at X1 q1 q2 q3 st hQ
  subst q1 q2 q3
  exact ⟨v, T1, L, X1, hQ, fun _ q => st.trans q⟩
/-- what a body that writes nothing leaves -/
abbrev own_P (v : Option Value) (h : Heap) : Option Value → Heap → List Loc → Prop := fun w h' L => w = v ∧ L = [] ∧ h' = h
theorem own_flat (X : Stand p l e R s m args below meth c T (locs ++ []) (cells + 0) (slots + 0)) : Stand p l e R s m args below meth c T locs cells slots := by
  rw [List.append_nil] at X
  exact X
def own_c32 : ClassFile.Cond → Int32 → Int32 → Bool
  | .lt, x, y => decide (x < y)
  | .ge, x, y => !decide (x < y)
  | .gt, x, y => decide (y < x)
  | .le, x, y => !decide (y < x)
  | .eq, x, y => decide (x = y)
  | .ne, x, y => !decide (x = y)
def own_c64 : ClassFile.Cond → Int64 → Int64 → Bool
  | .lt, x, y => decide (x < y)
  | .ge, x, y => !decide (x < y)
  | .gt, x, y => decide (y < x)
  | .le, x, y => !decide (y < x)
  | .eq, x, y => decide (x = y)
  | .ne, x, y => !decide (x = y)
theorem own_yes {P : Prop} [Decidable P] (q : P) : decide P = true := decide_eq_true q
theorem own_no {P : Prop} [Decidable P] (q : ¬ P) : decide P = false := decide_eq_false q
theorem own_nyes {P : Prop} [Decidable P] (q : P) : (!decide P) = false := by rw [decide_eq_true q]; rfl
theorem own_nno {P : Prop} [Decidable P] (q : ¬ P) : (!decide P) = true := by rw [decide_eq_false q]; rfl
theorem own_i2 (cd : ClassFile.Cond) (x y : Int32) : if_icmp.holds cd x y = own_c32 cd x y := by
  cases cd
  case lt => by_cases q : x < y; · exact (tlt q).1.trans (own_yes q).symm
             · exact (flt q).1.trans (own_no q).symm
  case ge => by_cases q : x < y; · exact (tlt q).2.1.trans (own_nyes q).symm
             · exact (flt q).2.1.trans (own_nno q).symm
  case gt => by_cases q : y < x; · exact (tlt q).2.2.1.trans (own_yes q).symm
             · exact (flt q).2.2.1.trans (own_no q).symm
  case le => by_cases q : y < x; · exact (tlt q).2.2.2.trans (own_nyes q).symm
             · exact (flt q).2.2.2.trans (own_nno q).symm
  case eq => by_cases q : x = y; · exact (teq q).1.trans (own_yes q).symm
             · exact (feq q).1.trans (own_no q).symm
  case ne => by_cases q : x = y; · exact (teq q).2.trans (own_nyes q).symm
             · exact (feq q).2.trans (own_nno q).symm
theorem own_i0 (cd : ClassFile.Cond) (x : Int32) : ifCond.holds cd x = own_c32 cd x 0 := (if0 cd x).trans (own_i2 cd x 0)
theorem own_l0 (cd : ClassFile.Cond) (x y : Int64) : ifCond.holds cd (lcmpW x y) = own_c64 cd x y := by
  rw [own_i0]
  have q1 := lw_lt x y
  have q2 := lw_gt x y
  have q3 := lw_eq x y
  cases cd <;> simp only [own_c32, own_c64, q1, q2, q3]
theorem own_ldI {a : Addr} {k : ClassId} {z j : Int32} {vs : List Value} {dv : Value} (F : Arv Z h a k .int z vs dv) (q : ¬ j < 0 ∧ j < z) : ∃ (cl : Cell) (v : Int32), Arr Z h a cl .int ∧ ¬ (j < 0 ∨ cl.slots.size ≤ j.toNatClampNeg) ∧ cl.slots[j.toNatClampNeg]? = some (.int v) := by
  obtain ⟨cl, A, -, S, M, H, G⟩ := F
  have hin := inb_of S q
  have hlt : j.toNatClampNeg < cl.slots.size := Nat.lt_of_not_le fun y => hin (Or.inr y)
  obtain ⟨v, hv⟩ := fit_I (G _ hlt) (Or.inl rfl)
  exact ⟨cl, v, A, hin, by rw [H _ hlt, hv]⟩
theorem own_len {a : Addr} {k : ClassId} {ty : FieldType} {z : Int32} {vs : List Value} {dv : Value} (F : Arv Z h a k ty z vs dv) : ∃ cl : Cell, Arr Z h a cl ty ∧ cl.slots.size = z.toNatClampNeg ∧ ¬ z < 0 := by
  obtain ⟨cl, A, -, S, M, -, -⟩ := F
  exact ⟨cl, A, S, M⟩
theorem own_at {a : Addr} {k : ClassId} {ty : FieldType} {z j : Int32} {vs : List Value} {dv : Value} (F : Arv Z h a k ty z vs dv) (q : ¬ j < 0 ∧ j < z) {i : Nat} (hj : j.toNatClampNeg = i) {v : Value} (hv : vs.getD i dv = v) : ∃ cl : Cell, Arr Z h a cl ty ∧ ¬ (j < 0 ∨ cl.slots.size ≤ j.toNatClampNeg) ∧ cl.slots[j.toNatClampNeg]? = some v := by
  obtain ⟨cl, A, -, S, M, H, -⟩ := F
  have hin := inb_of S q
  have hlt : j.toNatClampNeg < cl.slots.size := Nat.lt_of_not_le fun y => hin (Or.inr y)
  refine ⟨cl, A, hin, ?_⟩
  rw [H _ hlt, hj, hv]
end OwnKit

theorem pd_0 : parseMethodDescriptor "(I)Z" = some ⟨[.int], some .boolean⟩ := by decide +kernel
def own_a_201 (p0 : Int32) : Int32 := (0 : Int32)
def own_a_197 (p0 : Int32) : Int32 := (1 : Int32)
def own_a_185 (p0 : Int32) : Int32 := (if p0 < (65536 : Int32) then (own_a_201 p0) else (if (983039 : Int32) < p0 then (own_a_201 p0) else (own_a_197 p0)))
def own_a_173 (p0 : Int32) : Int32 := (if p0 < (65008 : Int32) then (own_a_185 p0) else (if (65533 : Int32) < p0 then (own_a_185 p0) else (own_a_197 p0)))
def own_a_161 (p0 : Int32) : Int32 := (if p0 < (63744 : Int32) then (own_a_173 p0) else (if (64975 : Int32) < p0 then (own_a_173 p0) else (own_a_197 p0)))
def own_a_148 (p0 : Int32) : Int32 := (if p0 < (12289 : Int32) then (own_a_161 p0) else (if (55295 : Int32) < p0 then (own_a_161 p0) else (own_a_197 p0)))
def own_a_134 (p0 : Int32) : Int32 := (if p0 < (11264 : Int32) then (own_a_148 p0) else (if (12271 : Int32) < p0 then (own_a_148 p0) else (own_a_197 p0)))
def own_a_120 (p0 : Int32) : Int32 := (if p0 < (8304 : Int32) then (own_a_134 p0) else (if (8591 : Int32) < p0 then (own_a_134 p0) else (own_a_197 p0)))
def own_a_106 (p0 : Int32) : Int32 := (if p0 < (8204 : Int32) then (own_a_120 p0) else (if (8205 : Int32) < p0 then (own_a_120 p0) else (own_a_197 p0)))
def own_a_92 (p0 : Int32) : Int32 := (if p0 < (895 : Int32) then (own_a_106 p0) else (if (8191 : Int32) < p0 then (own_a_106 p0) else (own_a_197 p0)))
def own_a_78 (p0 : Int32) : Int32 := (if p0 < (880 : Int32) then (own_a_92 p0) else (if (893 : Int32) < p0 then (own_a_92 p0) else (own_a_197 p0)))
def own_a_64 (p0 : Int32) : Int32 := (if p0 < (248 : Int32) then (own_a_78 p0) else (if (767 : Int32) < p0 then (own_a_78 p0) else (own_a_197 p0)))
def own_a_50 (p0 : Int32) : Int32 := (if p0 < (216 : Int32) then (own_a_64 p0) else (if (246 : Int32) < p0 then (own_a_64 p0) else (own_a_197 p0)))
def own_a_36 (p0 : Int32) : Int32 := (if p0 < (192 : Int32) then (own_a_50 p0) else (if (214 : Int32) < p0 then (own_a_50 p0) else (own_a_197 p0)))
def own_a_24 (p0 : Int32) : Int32 := (if p0 < (97 : Int32) then (own_a_36 p0) else (if (122 : Int32) < p0 then (own_a_36 p0) else (own_a_197 p0)))
def own_a_0 (p0 : Int32) : Int32 := (if p0 = (58 : Int32) then (own_a_197 p0) else (if p0 = (95 : Int32) then (own_a_197 p0) else (if p0 < (65 : Int32) then (own_a_24 p0) else (if (90 : Int32) < p0 then (own_a_24 p0) else (own_a_197 p0)))))
theorem d1_0 : decode prog_34_method_5_code 0 = .ok (.iload_n 0, 1) := by decide +kernel
theorem d1_1 : decode prog_34_method_5_code 1 = .ok (.bipush 58, 2) := by decide +kernel
theorem d1_3 : decode prog_34_method_5_code 3 = .ok (.if_icmp .eq 194, 3) := by decide +kernel
theorem d1_6 : decode prog_34_method_5_code 6 = .ok (.iload_n 0, 1) := by decide +kernel
theorem d1_7 : decode prog_34_method_5_code 7 = .ok (.bipush 95, 2) := by decide +kernel
theorem d1_9 : decode prog_34_method_5_code 9 = .ok (.if_icmp .eq 188, 3) := by decide +kernel
theorem d1_12 : decode prog_34_method_5_code 12 = .ok (.iload_n 0, 1) := by decide +kernel
theorem d1_13 : decode prog_34_method_5_code 13 = .ok (.bipush 65, 2) := by decide +kernel
theorem d1_15 : decode prog_34_method_5_code 15 = .ok (.if_icmp .lt 9, 3) := by decide +kernel
theorem d1_18 : decode prog_34_method_5_code 18 = .ok (.iload_n 0, 1) := by decide +kernel
theorem d1_19 : decode prog_34_method_5_code 19 = .ok (.bipush 90, 2) := by decide +kernel
theorem d1_21 : decode prog_34_method_5_code 21 = .ok (.if_icmp .le 176, 3) := by decide +kernel
theorem d1_24 : decode prog_34_method_5_code 24 = .ok (.iload_n 0, 1) := by decide +kernel
theorem d1_25 : decode prog_34_method_5_code 25 = .ok (.bipush 97, 2) := by decide +kernel
theorem d1_27 : decode prog_34_method_5_code 27 = .ok (.if_icmp .lt 9, 3) := by decide +kernel
theorem d1_30 : decode prog_34_method_5_code 30 = .ok (.iload_n 0, 1) := by decide +kernel
theorem d1_31 : decode prog_34_method_5_code 31 = .ok (.bipush 122, 2) := by decide +kernel
theorem d1_33 : decode prog_34_method_5_code 33 = .ok (.if_icmp .le 164, 3) := by decide +kernel
theorem d1_36 : decode prog_34_method_5_code 36 = .ok (.iload_n 0, 1) := by decide +kernel
theorem d1_37 : decode prog_34_method_5_code 37 = .ok (.sipush 192, 3) := by decide +kernel
theorem d1_40 : decode prog_34_method_5_code 40 = .ok (.if_icmp .lt 10, 3) := by decide +kernel
theorem d1_43 : decode prog_34_method_5_code 43 = .ok (.iload_n 0, 1) := by decide +kernel
theorem d1_44 : decode prog_34_method_5_code 44 = .ok (.sipush 214, 3) := by decide +kernel
theorem d1_47 : decode prog_34_method_5_code 47 = .ok (.if_icmp .le 150, 3) := by decide +kernel
theorem d1_50 : decode prog_34_method_5_code 50 = .ok (.iload_n 0, 1) := by decide +kernel
theorem d1_51 : decode prog_34_method_5_code 51 = .ok (.sipush 216, 3) := by decide +kernel
theorem d1_54 : decode prog_34_method_5_code 54 = .ok (.if_icmp .lt 10, 3) := by decide +kernel
theorem d1_57 : decode prog_34_method_5_code 57 = .ok (.iload_n 0, 1) := by decide +kernel
theorem d1_58 : decode prog_34_method_5_code 58 = .ok (.sipush 246, 3) := by decide +kernel
theorem d1_61 : decode prog_34_method_5_code 61 = .ok (.if_icmp .le 136, 3) := by decide +kernel
theorem d1_64 : decode prog_34_method_5_code 64 = .ok (.iload_n 0, 1) := by decide +kernel
theorem d1_65 : decode prog_34_method_5_code 65 = .ok (.sipush 248, 3) := by decide +kernel
theorem d1_68 : decode prog_34_method_5_code 68 = .ok (.if_icmp .lt 10, 3) := by decide +kernel
theorem d1_71 : decode prog_34_method_5_code 71 = .ok (.iload_n 0, 1) := by decide +kernel
theorem d1_72 : decode prog_34_method_5_code 72 = .ok (.sipush 767, 3) := by decide +kernel
theorem d1_75 : decode prog_34_method_5_code 75 = .ok (.if_icmp .le 122, 3) := by decide +kernel
theorem d1_78 : decode prog_34_method_5_code 78 = .ok (.iload_n 0, 1) := by decide +kernel
theorem d1_79 : decode prog_34_method_5_code 79 = .ok (.sipush 880, 3) := by decide +kernel
theorem d1_82 : decode prog_34_method_5_code 82 = .ok (.if_icmp .lt 10, 3) := by decide +kernel
theorem d1_85 : decode prog_34_method_5_code 85 = .ok (.iload_n 0, 1) := by decide +kernel
theorem d1_86 : decode prog_34_method_5_code 86 = .ok (.sipush 893, 3) := by decide +kernel
theorem d1_89 : decode prog_34_method_5_code 89 = .ok (.if_icmp .le 108, 3) := by decide +kernel
theorem d1_92 : decode prog_34_method_5_code 92 = .ok (.iload_n 0, 1) := by decide +kernel
theorem d1_93 : decode prog_34_method_5_code 93 = .ok (.sipush 895, 3) := by decide +kernel
theorem d1_96 : decode prog_34_method_5_code 96 = .ok (.if_icmp .lt 10, 3) := by decide +kernel
theorem d1_99 : decode prog_34_method_5_code 99 = .ok (.iload_n 0, 1) := by decide +kernel
theorem d1_100 : decode prog_34_method_5_code 100 = .ok (.sipush 8191, 3) := by decide +kernel
theorem d1_103 : decode prog_34_method_5_code 103 = .ok (.if_icmp .le 94, 3) := by decide +kernel
theorem d1_106 : decode prog_34_method_5_code 106 = .ok (.iload_n 0, 1) := by decide +kernel
theorem d1_107 : decode prog_34_method_5_code 107 = .ok (.sipush 8204, 3) := by decide +kernel
theorem d1_110 : decode prog_34_method_5_code 110 = .ok (.if_icmp .lt 10, 3) := by decide +kernel
theorem d1_113 : decode prog_34_method_5_code 113 = .ok (.iload_n 0, 1) := by decide +kernel
theorem d1_114 : decode prog_34_method_5_code 114 = .ok (.sipush 8205, 3) := by decide +kernel
theorem d1_117 : decode prog_34_method_5_code 117 = .ok (.if_icmp .le 80, 3) := by decide +kernel
theorem d1_120 : decode prog_34_method_5_code 120 = .ok (.iload_n 0, 1) := by decide +kernel
theorem d1_121 : decode prog_34_method_5_code 121 = .ok (.sipush 8304, 3) := by decide +kernel
theorem d1_124 : decode prog_34_method_5_code 124 = .ok (.if_icmp .lt 10, 3) := by decide +kernel
theorem d1_127 : decode prog_34_method_5_code 127 = .ok (.iload_n 0, 1) := by decide +kernel
theorem d1_128 : decode prog_34_method_5_code 128 = .ok (.sipush 8591, 3) := by decide +kernel
theorem d1_131 : decode prog_34_method_5_code 131 = .ok (.if_icmp .le 66, 3) := by decide +kernel
theorem d1_134 : decode prog_34_method_5_code 134 = .ok (.iload_n 0, 1) := by decide +kernel
theorem d1_135 : decode prog_34_method_5_code 135 = .ok (.sipush 11264, 3) := by decide +kernel
theorem d1_138 : decode prog_34_method_5_code 138 = .ok (.if_icmp .lt 10, 3) := by decide +kernel
theorem d1_141 : decode prog_34_method_5_code 141 = .ok (.iload_n 0, 1) := by decide +kernel
theorem d1_142 : decode prog_34_method_5_code 142 = .ok (.sipush 12271, 3) := by decide +kernel
theorem d1_145 : decode prog_34_method_5_code 145 = .ok (.if_icmp .le 52, 3) := by decide +kernel
theorem d1_148 : decode prog_34_method_5_code 148 = .ok (.iload_n 0, 1) := by decide +kernel
theorem d1_149 : decode prog_34_method_5_code 149 = .ok (.sipush 12289, 3) := by decide +kernel
theorem d1_152 : decode prog_34_method_5_code 152 = .ok (.if_icmp .lt 9, 3) := by decide +kernel
theorem d1_155 : decode prog_34_method_5_code 155 = .ok (.iload_n 0, 1) := by decide +kernel
theorem d1_156 : decode prog_34_method_5_code 156 = .ok (.ldc 7, 2) := by decide +kernel
theorem d1_158 : decode prog_34_method_5_code 158 = .ok (.if_icmp .le 39, 3) := by decide +kernel
theorem d1_161 : decode prog_34_method_5_code 161 = .ok (.iload_n 0, 1) := by decide +kernel
theorem d1_162 : decode prog_34_method_5_code 162 = .ok (.ldc 26, 2) := by decide +kernel
theorem d1_164 : decode prog_34_method_5_code 164 = .ok (.if_icmp .lt 9, 3) := by decide +kernel
theorem d1_167 : decode prog_34_method_5_code 167 = .ok (.iload_n 0, 1) := by decide +kernel
theorem d1_168 : decode prog_34_method_5_code 168 = .ok (.ldc 27, 2) := by decide +kernel
theorem d1_170 : decode prog_34_method_5_code 170 = .ok (.if_icmp .le 27, 3) := by decide +kernel
theorem d1_173 : decode prog_34_method_5_code 173 = .ok (.iload_n 0, 1) := by decide +kernel
theorem d1_174 : decode prog_34_method_5_code 174 = .ok (.ldc 28, 2) := by decide +kernel
theorem d1_176 : decode prog_34_method_5_code 176 = .ok (.if_icmp .lt 9, 3) := by decide +kernel
theorem d1_179 : decode prog_34_method_5_code 179 = .ok (.iload_n 0, 1) := by decide +kernel
theorem d1_180 : decode prog_34_method_5_code 180 = .ok (.ldc 9, 2) := by decide +kernel
theorem d1_182 : decode prog_34_method_5_code 182 = .ok (.if_icmp .le 15, 3) := by decide +kernel
theorem d1_185 : decode prog_34_method_5_code 185 = .ok (.iload_n 0, 1) := by decide +kernel
theorem d1_186 : decode prog_34_method_5_code 186 = .ok (.ldc 10, 2) := by decide +kernel
theorem d1_188 : decode prog_34_method_5_code 188 = .ok (.if_icmp .lt 13, 3) := by decide +kernel
theorem d1_191 : decode prog_34_method_5_code 191 = .ok (.iload_n 0, 1) := by decide +kernel
theorem d1_192 : decode prog_34_method_5_code 192 = .ok (.ldc 29, 2) := by decide +kernel
theorem d1_194 : decode prog_34_method_5_code 194 = .ok (.if_icmp .gt 7, 3) := by decide +kernel
theorem d1_197 : decode prog_34_method_5_code 197 = .ok (.iconst 1, 1) := by decide +kernel
theorem d1_198 : decode prog_34_method_5_code 198 = .ok (.goto 4, 3) := by decide +kernel
theorem d1_201 : decode prog_34_method_5_code 201 = .ok (.iconst 0, 1) := by decide +kernel
theorem d1_202 : decode prog_34_method_5_code 202 = .ok (.ireturn, 1) := by decide +kernel
theorem pn_1 : plainFor (⟨"com/example/early_sieve/earlysieve/io/XmlCharacters", "isNameStart", "(I)Z"⟩ : MethodName) = true := plainFor_of_name (by first | (simp [plainName, overriddenIn]; done) | decide +kernel)
theorem ef_1 (m : MethodId) (x0 : Int32) : entryFrame m #[(.int x0)] 1 = mkF m 0 #[.val (.int x0)] [] := by first | (simp [entryFrame, mkF, argsToLocals, Value.category]; done) | rfl
set_option maxRecDepth 65536 in
set_option maxHeartbeats 40000000 in
theorem rm1 (l : Launch) (Z : State) (tA : Array Value) (hw : ∀ d ∈ tables_1, d.before tA Z = true) (p0 : Int32) (h0 : Heap) :
    own_Met l Z (⟨"com/example/early_sieve/earlysieve/io/XmlCharacters", "isNameStart", "(I)Z"⟩ : MethodName) prog_34_method_5_code 1 (some .boolean) ({ frames := 0, cells := 0, slots := 0, locals := 0 } : Room) #[(.int p0)] h0 (own_P (some (.int (own_a_0 p0))) h0) := by
  refine own_body pn_1 ?_
  intro p e s m below meth c s₁ X0 hx hZ hby hml hown hret hlk hnm e0
  have B201 : ∀ (T0 : State), Stand p l e ({ frames := 0, cells := 0, slots := 0, locals := 0 } : Room) s m #[(.int p0)] below meth c T0 [] 0 0 → T0.heap = h0 → own_a_201 p0 = own_a_0 p0 → own_Go p e below (own_Post s (own_P (some (.int (own_a_0 p0))) h0) ({ frames := 0, cells := 0, slots := 0, locals := 0 } : Room).cells ({ frames := 0, cells := 0, slots := 0, locals := 0 } : Room).slots) (T0.setTop (mkF m 201 #[.val (.int p0)] [])) := by
    intro T0 X0 e0 hbk
    show own_Go p e below _ (T0.setTop (mkF m 201 #[.val (.int p0)] []))
    refine own_st (fun _ k => XS.iconst X0.here hx rfl (hb hby d1_201) k) ?_
    show own_Go p e below _ (T0.setTop (mkF m 202 #[.val (.int p0)] [(.int (0 : Int32))]))
    exact own_retZ X0 hx hlk hret rfl (hb hby d1_202) ⟨congrArg (fun z => some (Value.int z)) ((show own_a_201 p0 = (0 : Int32) from rfl).symm.trans hbk), rfl, e0⟩ (by decide) (by decide)
  have B197 : ∀ (T0 : State), Stand p l e ({ frames := 0, cells := 0, slots := 0, locals := 0 } : Room) s m #[(.int p0)] below meth c T0 [] 0 0 → T0.heap = h0 → own_a_197 p0 = own_a_0 p0 → own_Go p e below (own_Post s (own_P (some (.int (own_a_0 p0))) h0) ({ frames := 0, cells := 0, slots := 0, locals := 0 } : Room).cells ({ frames := 0, cells := 0, slots := 0, locals := 0 } : Room).slots) (T0.setTop (mkF m 197 #[.val (.int p0)] [])) := by
    intro T0 X0 e0 hbk
    show own_Go p e below _ (T0.setTop (mkF m 197 #[.val (.int p0)] []))
    refine own_st (fun _ k => XS.iconst X0.here hx rfl (hb hby d1_197) k) ?_
    show own_Go p e below _ (T0.setTop (mkF m 198 #[.val (.int p0)] [(.int (1 : Int32))]))
    refine own_st (fun _ k => XS.goto X0.here hx rfl (pc0 := 198) (pc' := 202) rfl (hb hby d1_198) (by decide) (by decide) k) ?_
    show own_Go p e below _ (T0.setTop (mkF m 202 #[.val (.int p0)] [(.int (1 : Int32))]))
    exact own_retZ X0 hx hlk hret rfl (hb hby d1_202) ⟨congrArg (fun z => some (Value.int z)) ((show own_a_197 p0 = (1 : Int32) from rfl).symm.trans hbk), rfl, e0⟩ (by decide) (by decide)
  have B185 : ∀ (T0 : State), Stand p l e ({ frames := 0, cells := 0, slots := 0, locals := 0 } : Room) s m #[(.int p0)] below meth c T0 [] 0 0 → T0.heap = h0 → own_a_185 p0 = own_a_0 p0 → own_Go p e below (own_Post s (own_P (some (.int (own_a_0 p0))) h0) ({ frames := 0, cells := 0, slots := 0, locals := 0 } : Room).cells ({ frames := 0, cells := 0, slots := 0, locals := 0 } : Room).slots) (T0.setTop (mkF m 185 #[.val (.int p0)] [])) := by
    intro T0 X0 e0 hbk
    show own_Go p e below _ (T0.setTop (mkF m 185 #[.val (.int p0)] []))
    refine own_st (fun _ k => XS.iloadN X0.here hx rfl (hb hby d1_185) rfl k) ?_
    show own_Go p e below _ (T0.setTop (mkF m 186 #[.val (.int p0)] [(.int p0)]))
    refine own_st (fun _ k => X0.ldcInt hx hown (mvT hZ (hw _ (List.mem_of_getElem? (i := 14) rfl))) (g := (mkF m 186 #[.val (.int p0)] [(.int p0)])) rfl (hb hby d1_186) _ k) ?_
    show own_Go p e below _ (T0.setTop (mkF m 188 #[.val (.int p0)] [(.int (65536 : Int32)), (.int p0)]))
    by_cases hc188 : p0 < (65536 : Int32)
    · refine own_st (fun _ k => XS.icmpYes X0.here hx rfl (pc0 := 188) (pc' := 201) rfl (hb hby d1_188) rfl ((own_i2 _ _ _).trans (own_yes (hc188 : p0 < (65536 : Int32)))) (by decide) (by decide) k) ?_
      show own_Go p e below _ (T0.setTop (mkF m 201 #[.val (.int p0)] []))
      exact B201 T0 X0 e0 ((show own_a_185 p0 = own_a_201 p0 from (if_pos hc188)).symm.trans hbk)
    · refine own_st (fun _ k => XS.icmpNo X0.here hx rfl (hb hby d1_188) rfl ((own_i2 _ _ _).trans (own_no (hc188 : ¬ (p0 < (65536 : Int32))))) k) ?_
      show own_Go p e below _ (T0.setTop (mkF m 191 #[.val (.int p0)] []))
      refine own_st (fun _ k => XS.iloadN X0.here hx rfl (hb hby d1_191) rfl k) ?_
      show own_Go p e below _ (T0.setTop (mkF m 192 #[.val (.int p0)] [(.int p0)]))
      refine own_st (fun _ k => X0.ldcInt hx hown (mvT hZ (hw _ (List.mem_of_getElem? (i := 22) rfl))) (g := (mkF m 192 #[.val (.int p0)] [(.int p0)])) rfl (hb hby d1_192) _ k) ?_
      show own_Go p e below _ (T0.setTop (mkF m 194 #[.val (.int p0)] [(.int (983039 : Int32)), (.int p0)]))
      by_cases hc194 : (983039 : Int32) < p0
      · refine own_st (fun _ k => XS.icmpYes X0.here hx rfl (pc0 := 194) (pc' := 201) rfl (hb hby d1_194) rfl ((own_i2 _ _ _).trans (own_yes (hc194 : (983039 : Int32) < p0))) (by decide) (by decide) k) ?_
        show own_Go p e below _ (T0.setTop (mkF m 201 #[.val (.int p0)] []))
        exact B201 T0 X0 e0 ((show own_a_185 p0 = own_a_201 p0 from ((if_neg hc188)).trans ((if_pos hc194))).symm.trans hbk)
      · refine own_st (fun _ k => XS.icmpNo X0.here hx rfl (hb hby d1_194) rfl ((own_i2 _ _ _).trans (own_no (hc194 : ¬ ((983039 : Int32) < p0)))) k) ?_
        show own_Go p e below _ (T0.setTop (mkF m 197 #[.val (.int p0)] []))
        exact B197 T0 X0 e0 ((show own_a_185 p0 = own_a_197 p0 from ((if_neg hc188)).trans ((if_neg hc194))).symm.trans hbk)
  have B173 : ∀ (T0 : State), Stand p l e ({ frames := 0, cells := 0, slots := 0, locals := 0 } : Room) s m #[(.int p0)] below meth c T0 [] 0 0 → T0.heap = h0 → own_a_173 p0 = own_a_0 p0 → own_Go p e below (own_Post s (own_P (some (.int (own_a_0 p0))) h0) ({ frames := 0, cells := 0, slots := 0, locals := 0 } : Room).cells ({ frames := 0, cells := 0, slots := 0, locals := 0 } : Room).slots) (T0.setTop (mkF m 173 #[.val (.int p0)] [])) := by
    intro T0 X0 e0 hbk
    show own_Go p e below _ (T0.setTop (mkF m 173 #[.val (.int p0)] []))
    refine own_st (fun _ k => XS.iloadN X0.here hx rfl (hb hby d1_173) rfl k) ?_
    show own_Go p e below _ (T0.setTop (mkF m 174 #[.val (.int p0)] [(.int p0)]))
    refine own_st (fun _ k => X0.ldcInt hx hown (mvT hZ (hw _ (List.mem_of_getElem? (i := 13) rfl))) (g := (mkF m 174 #[.val (.int p0)] [(.int p0)])) rfl (hb hby d1_174) _ k) ?_
    show own_Go p e below _ (T0.setTop (mkF m 176 #[.val (.int p0)] [(.int (65008 : Int32)), (.int p0)]))
    by_cases hc176 : p0 < (65008 : Int32)
    · refine own_st (fun _ k => XS.icmpYes X0.here hx rfl (pc0 := 176) (pc' := 185) rfl (hb hby d1_176) rfl ((own_i2 _ _ _).trans (own_yes (hc176 : p0 < (65008 : Int32)))) (by decide) (by decide) k) ?_
      show own_Go p e below _ (T0.setTop (mkF m 185 #[.val (.int p0)] []))
      exact B185 T0 X0 e0 ((show own_a_173 p0 = own_a_185 p0 from (if_pos hc176)).symm.trans hbk)
    · refine own_st (fun _ k => XS.icmpNo X0.here hx rfl (hb hby d1_176) rfl ((own_i2 _ _ _).trans (own_no (hc176 : ¬ (p0 < (65008 : Int32))))) k) ?_
      show own_Go p e below _ (T0.setTop (mkF m 179 #[.val (.int p0)] []))
      refine own_st (fun _ k => XS.iloadN X0.here hx rfl (hb hby d1_179) rfl k) ?_
      show own_Go p e below _ (T0.setTop (mkF m 180 #[.val (.int p0)] [(.int p0)]))
      refine own_st (fun _ k => X0.ldcInt hx hown (mvT hZ (hw _ (List.mem_of_getElem? (i := 21) rfl))) (g := (mkF m 180 #[.val (.int p0)] [(.int p0)])) rfl (hb hby d1_180) _ k) ?_
      show own_Go p e below _ (T0.setTop (mkF m 182 #[.val (.int p0)] [(.int (65533 : Int32)), (.int p0)]))
      by_cases hc182 : (65533 : Int32) < p0
      · refine own_st (fun _ k => XS.icmpNo X0.here hx rfl (hb hby d1_182) rfl ((own_i2 _ _ _).trans (own_nyes (hc182 : (65533 : Int32) < p0))) k) ?_
        show own_Go p e below _ (T0.setTop (mkF m 185 #[.val (.int p0)] []))
        exact B185 T0 X0 e0 ((show own_a_173 p0 = own_a_185 p0 from ((if_neg hc176)).trans ((if_pos hc182))).symm.trans hbk)
      · refine own_st (fun _ k => XS.icmpYes X0.here hx rfl (pc0 := 182) (pc' := 197) rfl (hb hby d1_182) rfl ((own_i2 _ _ _).trans (own_nno (hc182 : ¬ ((65533 : Int32) < p0)))) (by decide) (by decide) k) ?_
        show own_Go p e below _ (T0.setTop (mkF m 197 #[.val (.int p0)] []))
        exact B197 T0 X0 e0 ((show own_a_173 p0 = own_a_197 p0 from ((if_neg hc176)).trans ((if_neg hc182))).symm.trans hbk)
  have B161 : ∀ (T0 : State), Stand p l e ({ frames := 0, cells := 0, slots := 0, locals := 0 } : Room) s m #[(.int p0)] below meth c T0 [] 0 0 → T0.heap = h0 → own_a_161 p0 = own_a_0 p0 → own_Go p e below (own_Post s (own_P (some (.int (own_a_0 p0))) h0) ({ frames := 0, cells := 0, slots := 0, locals := 0 } : Room).cells ({ frames := 0, cells := 0, slots := 0, locals := 0 } : Room).slots) (T0.setTop (mkF m 161 #[.val (.int p0)] [])) := by
    intro T0 X0 e0 hbk
    show own_Go p e below _ (T0.setTop (mkF m 161 #[.val (.int p0)] []))
    refine own_st (fun _ k => XS.iloadN X0.here hx rfl (hb hby d1_161) rfl k) ?_
    show own_Go p e below _ (T0.setTop (mkF m 162 #[.val (.int p0)] [(.int p0)]))
    refine own_st (fun _ k => X0.ldcInt hx hown (mvT hZ (hw _ (List.mem_of_getElem? (i := 12) rfl))) (g := (mkF m 162 #[.val (.int p0)] [(.int p0)])) rfl (hb hby d1_162) _ k) ?_
    show own_Go p e below _ (T0.setTop (mkF m 164 #[.val (.int p0)] [(.int (63744 : Int32)), (.int p0)]))
    by_cases hc164 : p0 < (63744 : Int32)
    · refine own_st (fun _ k => XS.icmpYes X0.here hx rfl (pc0 := 164) (pc' := 173) rfl (hb hby d1_164) rfl ((own_i2 _ _ _).trans (own_yes (hc164 : p0 < (63744 : Int32)))) (by decide) (by decide) k) ?_
      show own_Go p e below _ (T0.setTop (mkF m 173 #[.val (.int p0)] []))
      exact B173 T0 X0 e0 ((show own_a_161 p0 = own_a_173 p0 from (if_pos hc164)).symm.trans hbk)
    · refine own_st (fun _ k => XS.icmpNo X0.here hx rfl (hb hby d1_164) rfl ((own_i2 _ _ _).trans (own_no (hc164 : ¬ (p0 < (63744 : Int32))))) k) ?_
      show own_Go p e below _ (T0.setTop (mkF m 167 #[.val (.int p0)] []))
      refine own_st (fun _ k => XS.iloadN X0.here hx rfl (hb hby d1_167) rfl k) ?_
      show own_Go p e below _ (T0.setTop (mkF m 168 #[.val (.int p0)] [(.int p0)]))
      refine own_st (fun _ k => X0.ldcInt hx hown (mvT hZ (hw _ (List.mem_of_getElem? (i := 20) rfl))) (g := (mkF m 168 #[.val (.int p0)] [(.int p0)])) rfl (hb hby d1_168) _ k) ?_
      show own_Go p e below _ (T0.setTop (mkF m 170 #[.val (.int p0)] [(.int (64975 : Int32)), (.int p0)]))
      by_cases hc170 : (64975 : Int32) < p0
      · refine own_st (fun _ k => XS.icmpNo X0.here hx rfl (hb hby d1_170) rfl ((own_i2 _ _ _).trans (own_nyes (hc170 : (64975 : Int32) < p0))) k) ?_
        show own_Go p e below _ (T0.setTop (mkF m 173 #[.val (.int p0)] []))
        exact B173 T0 X0 e0 ((show own_a_161 p0 = own_a_173 p0 from ((if_neg hc164)).trans ((if_pos hc170))).symm.trans hbk)
      · refine own_st (fun _ k => XS.icmpYes X0.here hx rfl (pc0 := 170) (pc' := 197) rfl (hb hby d1_170) rfl ((own_i2 _ _ _).trans (own_nno (hc170 : ¬ ((64975 : Int32) < p0)))) (by decide) (by decide) k) ?_
        show own_Go p e below _ (T0.setTop (mkF m 197 #[.val (.int p0)] []))
        exact B197 T0 X0 e0 ((show own_a_161 p0 = own_a_197 p0 from ((if_neg hc164)).trans ((if_neg hc170))).symm.trans hbk)
  have B148 : ∀ (T0 : State), Stand p l e ({ frames := 0, cells := 0, slots := 0, locals := 0 } : Room) s m #[(.int p0)] below meth c T0 [] 0 0 → T0.heap = h0 → own_a_148 p0 = own_a_0 p0 → own_Go p e below (own_Post s (own_P (some (.int (own_a_0 p0))) h0) ({ frames := 0, cells := 0, slots := 0, locals := 0 } : Room).cells ({ frames := 0, cells := 0, slots := 0, locals := 0 } : Room).slots) (T0.setTop (mkF m 148 #[.val (.int p0)] [])) := by
    intro T0 X0 e0 hbk
    show own_Go p e below _ (T0.setTop (mkF m 148 #[.val (.int p0)] []))
    refine own_st (fun _ k => XS.iloadN X0.here hx rfl (hb hby d1_148) rfl k) ?_
    show own_Go p e below _ (T0.setTop (mkF m 149 #[.val (.int p0)] [(.int p0)]))
    refine own_st (fun _ k => XS.sipush X0.here hx rfl (hb hby d1_149) k) ?_
    show own_Go p e below _ (T0.setTop (mkF m 152 #[.val (.int p0)] [(.int (12289 : Int32)), (.int p0)]))
    by_cases hc152 : p0 < (12289 : Int32)
    · refine own_st (fun _ k => XS.icmpYes X0.here hx rfl (pc0 := 152) (pc' := 161) rfl (hb hby d1_152) rfl ((own_i2 _ _ _).trans (own_yes (hc152 : p0 < (12289 : Int32)))) (by decide) (by decide) k) ?_
      show own_Go p e below _ (T0.setTop (mkF m 161 #[.val (.int p0)] []))
      exact B161 T0 X0 e0 ((show own_a_148 p0 = own_a_161 p0 from (if_pos hc152)).symm.trans hbk)
    · refine own_st (fun _ k => XS.icmpNo X0.here hx rfl (hb hby d1_152) rfl ((own_i2 _ _ _).trans (own_no (hc152 : ¬ (p0 < (12289 : Int32))))) k) ?_
      show own_Go p e below _ (T0.setTop (mkF m 155 #[.val (.int p0)] []))
      refine own_st (fun _ k => XS.iloadN X0.here hx rfl (hb hby d1_155) rfl k) ?_
      show own_Go p e below _ (T0.setTop (mkF m 156 #[.val (.int p0)] [(.int p0)]))
      refine own_st (fun _ k => X0.ldcInt hx hown (mvT hZ (hw _ (List.mem_of_getElem? (i := 19) rfl))) (g := (mkF m 156 #[.val (.int p0)] [(.int p0)])) rfl (hb hby d1_156) _ k) ?_
      show own_Go p e below _ (T0.setTop (mkF m 158 #[.val (.int p0)] [(.int (55295 : Int32)), (.int p0)]))
      by_cases hc158 : (55295 : Int32) < p0
      · refine own_st (fun _ k => XS.icmpNo X0.here hx rfl (hb hby d1_158) rfl ((own_i2 _ _ _).trans (own_nyes (hc158 : (55295 : Int32) < p0))) k) ?_
        show own_Go p e below _ (T0.setTop (mkF m 161 #[.val (.int p0)] []))
        exact B161 T0 X0 e0 ((show own_a_148 p0 = own_a_161 p0 from ((if_neg hc152)).trans ((if_pos hc158))).symm.trans hbk)
      · refine own_st (fun _ k => XS.icmpYes X0.here hx rfl (pc0 := 158) (pc' := 197) rfl (hb hby d1_158) rfl ((own_i2 _ _ _).trans (own_nno (hc158 : ¬ ((55295 : Int32) < p0)))) (by decide) (by decide) k) ?_
        show own_Go p e below _ (T0.setTop (mkF m 197 #[.val (.int p0)] []))
        exact B197 T0 X0 e0 ((show own_a_148 p0 = own_a_197 p0 from ((if_neg hc152)).trans ((if_neg hc158))).symm.trans hbk)
  have B134 : ∀ (T0 : State), Stand p l e ({ frames := 0, cells := 0, slots := 0, locals := 0 } : Room) s m #[(.int p0)] below meth c T0 [] 0 0 → T0.heap = h0 → own_a_134 p0 = own_a_0 p0 → own_Go p e below (own_Post s (own_P (some (.int (own_a_0 p0))) h0) ({ frames := 0, cells := 0, slots := 0, locals := 0 } : Room).cells ({ frames := 0, cells := 0, slots := 0, locals := 0 } : Room).slots) (T0.setTop (mkF m 134 #[.val (.int p0)] [])) := by
    intro T0 X0 e0 hbk
    show own_Go p e below _ (T0.setTop (mkF m 134 #[.val (.int p0)] []))
    refine own_st (fun _ k => XS.iloadN X0.here hx rfl (hb hby d1_134) rfl k) ?_
    show own_Go p e below _ (T0.setTop (mkF m 135 #[.val (.int p0)] [(.int p0)]))
    refine own_st (fun _ k => XS.sipush X0.here hx rfl (hb hby d1_135) k) ?_
    show own_Go p e below _ (T0.setTop (mkF m 138 #[.val (.int p0)] [(.int (11264 : Int32)), (.int p0)]))
    by_cases hc138 : p0 < (11264 : Int32)
    · refine own_st (fun _ k => XS.icmpYes X0.here hx rfl (pc0 := 138) (pc' := 148) rfl (hb hby d1_138) rfl ((own_i2 _ _ _).trans (own_yes (hc138 : p0 < (11264 : Int32)))) (by decide) (by decide) k) ?_
      show own_Go p e below _ (T0.setTop (mkF m 148 #[.val (.int p0)] []))
      exact B148 T0 X0 e0 ((show own_a_134 p0 = own_a_148 p0 from (if_pos hc138)).symm.trans hbk)
    · refine own_st (fun _ k => XS.icmpNo X0.here hx rfl (hb hby d1_138) rfl ((own_i2 _ _ _).trans (own_no (hc138 : ¬ (p0 < (11264 : Int32))))) k) ?_
      show own_Go p e below _ (T0.setTop (mkF m 141 #[.val (.int p0)] []))
      refine own_st (fun _ k => XS.iloadN X0.here hx rfl (hb hby d1_141) rfl k) ?_
      show own_Go p e below _ (T0.setTop (mkF m 142 #[.val (.int p0)] [(.int p0)]))
      refine own_st (fun _ k => XS.sipush X0.here hx rfl (hb hby d1_142) k) ?_
      show own_Go p e below _ (T0.setTop (mkF m 145 #[.val (.int p0)] [(.int (12271 : Int32)), (.int p0)]))
      by_cases hc145 : (12271 : Int32) < p0
      · refine own_st (fun _ k => XS.icmpNo X0.here hx rfl (hb hby d1_145) rfl ((own_i2 _ _ _).trans (own_nyes (hc145 : (12271 : Int32) < p0))) k) ?_
        show own_Go p e below _ (T0.setTop (mkF m 148 #[.val (.int p0)] []))
        exact B148 T0 X0 e0 ((show own_a_134 p0 = own_a_148 p0 from ((if_neg hc138)).trans ((if_pos hc145))).symm.trans hbk)
      · refine own_st (fun _ k => XS.icmpYes X0.here hx rfl (pc0 := 145) (pc' := 197) rfl (hb hby d1_145) rfl ((own_i2 _ _ _).trans (own_nno (hc145 : ¬ ((12271 : Int32) < p0)))) (by decide) (by decide) k) ?_
        show own_Go p e below _ (T0.setTop (mkF m 197 #[.val (.int p0)] []))
        exact B197 T0 X0 e0 ((show own_a_134 p0 = own_a_197 p0 from ((if_neg hc138)).trans ((if_neg hc145))).symm.trans hbk)
  have B120 : ∀ (T0 : State), Stand p l e ({ frames := 0, cells := 0, slots := 0, locals := 0 } : Room) s m #[(.int p0)] below meth c T0 [] 0 0 → T0.heap = h0 → own_a_120 p0 = own_a_0 p0 → own_Go p e below (own_Post s (own_P (some (.int (own_a_0 p0))) h0) ({ frames := 0, cells := 0, slots := 0, locals := 0 } : Room).cells ({ frames := 0, cells := 0, slots := 0, locals := 0 } : Room).slots) (T0.setTop (mkF m 120 #[.val (.int p0)] [])) := by
    intro T0 X0 e0 hbk
    show own_Go p e below _ (T0.setTop (mkF m 120 #[.val (.int p0)] []))
    refine own_st (fun _ k => XS.iloadN X0.here hx rfl (hb hby d1_120) rfl k) ?_
    show own_Go p e below _ (T0.setTop (mkF m 121 #[.val (.int p0)] [(.int p0)]))
    refine own_st (fun _ k => XS.sipush X0.here hx rfl (hb hby d1_121) k) ?_
    show own_Go p e below _ (T0.setTop (mkF m 124 #[.val (.int p0)] [(.int (8304 : Int32)), (.int p0)]))
    by_cases hc124 : p0 < (8304 : Int32)
    · refine own_st (fun _ k => XS.icmpYes X0.here hx rfl (pc0 := 124) (pc' := 134) rfl (hb hby d1_124) rfl ((own_i2 _ _ _).trans (own_yes (hc124 : p0 < (8304 : Int32)))) (by decide) (by decide) k) ?_
      show own_Go p e below _ (T0.setTop (mkF m 134 #[.val (.int p0)] []))
      exact B134 T0 X0 e0 ((show own_a_120 p0 = own_a_134 p0 from (if_pos hc124)).symm.trans hbk)
    · refine own_st (fun _ k => XS.icmpNo X0.here hx rfl (hb hby d1_124) rfl ((own_i2 _ _ _).trans (own_no (hc124 : ¬ (p0 < (8304 : Int32))))) k) ?_
      show own_Go p e below _ (T0.setTop (mkF m 127 #[.val (.int p0)] []))
      refine own_st (fun _ k => XS.iloadN X0.here hx rfl (hb hby d1_127) rfl k) ?_
      show own_Go p e below _ (T0.setTop (mkF m 128 #[.val (.int p0)] [(.int p0)]))
      refine own_st (fun _ k => XS.sipush X0.here hx rfl (hb hby d1_128) k) ?_
      show own_Go p e below _ (T0.setTop (mkF m 131 #[.val (.int p0)] [(.int (8591 : Int32)), (.int p0)]))
      by_cases hc131 : (8591 : Int32) < p0
      · refine own_st (fun _ k => XS.icmpNo X0.here hx rfl (hb hby d1_131) rfl ((own_i2 _ _ _).trans (own_nyes (hc131 : (8591 : Int32) < p0))) k) ?_
        show own_Go p e below _ (T0.setTop (mkF m 134 #[.val (.int p0)] []))
        exact B134 T0 X0 e0 ((show own_a_120 p0 = own_a_134 p0 from ((if_neg hc124)).trans ((if_pos hc131))).symm.trans hbk)
      · refine own_st (fun _ k => XS.icmpYes X0.here hx rfl (pc0 := 131) (pc' := 197) rfl (hb hby d1_131) rfl ((own_i2 _ _ _).trans (own_nno (hc131 : ¬ ((8591 : Int32) < p0)))) (by decide) (by decide) k) ?_
        show own_Go p e below _ (T0.setTop (mkF m 197 #[.val (.int p0)] []))
        exact B197 T0 X0 e0 ((show own_a_120 p0 = own_a_197 p0 from ((if_neg hc124)).trans ((if_neg hc131))).symm.trans hbk)
  have B106 : ∀ (T0 : State), Stand p l e ({ frames := 0, cells := 0, slots := 0, locals := 0 } : Room) s m #[(.int p0)] below meth c T0 [] 0 0 → T0.heap = h0 → own_a_106 p0 = own_a_0 p0 → own_Go p e below (own_Post s (own_P (some (.int (own_a_0 p0))) h0) ({ frames := 0, cells := 0, slots := 0, locals := 0 } : Room).cells ({ frames := 0, cells := 0, slots := 0, locals := 0 } : Room).slots) (T0.setTop (mkF m 106 #[.val (.int p0)] [])) := by
    intro T0 X0 e0 hbk
    show own_Go p e below _ (T0.setTop (mkF m 106 #[.val (.int p0)] []))
    refine own_st (fun _ k => XS.iloadN X0.here hx rfl (hb hby d1_106) rfl k) ?_
    show own_Go p e below _ (T0.setTop (mkF m 107 #[.val (.int p0)] [(.int p0)]))
    refine own_st (fun _ k => XS.sipush X0.here hx rfl (hb hby d1_107) k) ?_
    show own_Go p e below _ (T0.setTop (mkF m 110 #[.val (.int p0)] [(.int (8204 : Int32)), (.int p0)]))
    by_cases hc110 : p0 < (8204 : Int32)
    · refine own_st (fun _ k => XS.icmpYes X0.here hx rfl (pc0 := 110) (pc' := 120) rfl (hb hby d1_110) rfl ((own_i2 _ _ _).trans (own_yes (hc110 : p0 < (8204 : Int32)))) (by decide) (by decide) k) ?_
      show own_Go p e below _ (T0.setTop (mkF m 120 #[.val (.int p0)] []))
      exact B120 T0 X0 e0 ((show own_a_106 p0 = own_a_120 p0 from (if_pos hc110)).symm.trans hbk)
    · refine own_st (fun _ k => XS.icmpNo X0.here hx rfl (hb hby d1_110) rfl ((own_i2 _ _ _).trans (own_no (hc110 : ¬ (p0 < (8204 : Int32))))) k) ?_
      show own_Go p e below _ (T0.setTop (mkF m 113 #[.val (.int p0)] []))
      refine own_st (fun _ k => XS.iloadN X0.here hx rfl (hb hby d1_113) rfl k) ?_
      show own_Go p e below _ (T0.setTop (mkF m 114 #[.val (.int p0)] [(.int p0)]))
      refine own_st (fun _ k => XS.sipush X0.here hx rfl (hb hby d1_114) k) ?_
      show own_Go p e below _ (T0.setTop (mkF m 117 #[.val (.int p0)] [(.int (8205 : Int32)), (.int p0)]))
      by_cases hc117 : (8205 : Int32) < p0
      · refine own_st (fun _ k => XS.icmpNo X0.here hx rfl (hb hby d1_117) rfl ((own_i2 _ _ _).trans (own_nyes (hc117 : (8205 : Int32) < p0))) k) ?_
        show own_Go p e below _ (T0.setTop (mkF m 120 #[.val (.int p0)] []))
        exact B120 T0 X0 e0 ((show own_a_106 p0 = own_a_120 p0 from ((if_neg hc110)).trans ((if_pos hc117))).symm.trans hbk)
      · refine own_st (fun _ k => XS.icmpYes X0.here hx rfl (pc0 := 117) (pc' := 197) rfl (hb hby d1_117) rfl ((own_i2 _ _ _).trans (own_nno (hc117 : ¬ ((8205 : Int32) < p0)))) (by decide) (by decide) k) ?_
        show own_Go p e below _ (T0.setTop (mkF m 197 #[.val (.int p0)] []))
        exact B197 T0 X0 e0 ((show own_a_106 p0 = own_a_197 p0 from ((if_neg hc110)).trans ((if_neg hc117))).symm.trans hbk)
  have B92 : ∀ (T0 : State), Stand p l e ({ frames := 0, cells := 0, slots := 0, locals := 0 } : Room) s m #[(.int p0)] below meth c T0 [] 0 0 → T0.heap = h0 → own_a_92 p0 = own_a_0 p0 → own_Go p e below (own_Post s (own_P (some (.int (own_a_0 p0))) h0) ({ frames := 0, cells := 0, slots := 0, locals := 0 } : Room).cells ({ frames := 0, cells := 0, slots := 0, locals := 0 } : Room).slots) (T0.setTop (mkF m 92 #[.val (.int p0)] [])) := by
    intro T0 X0 e0 hbk
    show own_Go p e below _ (T0.setTop (mkF m 92 #[.val (.int p0)] []))
    refine own_st (fun _ k => XS.iloadN X0.here hx rfl (hb hby d1_92) rfl k) ?_
    show own_Go p e below _ (T0.setTop (mkF m 93 #[.val (.int p0)] [(.int p0)]))
    refine own_st (fun _ k => XS.sipush X0.here hx rfl (hb hby d1_93) k) ?_
    show own_Go p e below _ (T0.setTop (mkF m 96 #[.val (.int p0)] [(.int (895 : Int32)), (.int p0)]))
    by_cases hc96 : p0 < (895 : Int32)
    · refine own_st (fun _ k => XS.icmpYes X0.here hx rfl (pc0 := 96) (pc' := 106) rfl (hb hby d1_96) rfl ((own_i2 _ _ _).trans (own_yes (hc96 : p0 < (895 : Int32)))) (by decide) (by decide) k) ?_
      show own_Go p e below _ (T0.setTop (mkF m 106 #[.val (.int p0)] []))
      exact B106 T0 X0 e0 ((show own_a_92 p0 = own_a_106 p0 from (if_pos hc96)).symm.trans hbk)
    · refine own_st (fun _ k => XS.icmpNo X0.here hx rfl (hb hby d1_96) rfl ((own_i2 _ _ _).trans (own_no (hc96 : ¬ (p0 < (895 : Int32))))) k) ?_
      show own_Go p e below _ (T0.setTop (mkF m 99 #[.val (.int p0)] []))
      refine own_st (fun _ k => XS.iloadN X0.here hx rfl (hb hby d1_99) rfl k) ?_
      show own_Go p e below _ (T0.setTop (mkF m 100 #[.val (.int p0)] [(.int p0)]))
      refine own_st (fun _ k => XS.sipush X0.here hx rfl (hb hby d1_100) k) ?_
      show own_Go p e below _ (T0.setTop (mkF m 103 #[.val (.int p0)] [(.int (8191 : Int32)), (.int p0)]))
      by_cases hc103 : (8191 : Int32) < p0
      · refine own_st (fun _ k => XS.icmpNo X0.here hx rfl (hb hby d1_103) rfl ((own_i2 _ _ _).trans (own_nyes (hc103 : (8191 : Int32) < p0))) k) ?_
        show own_Go p e below _ (T0.setTop (mkF m 106 #[.val (.int p0)] []))
        exact B106 T0 X0 e0 ((show own_a_92 p0 = own_a_106 p0 from ((if_neg hc96)).trans ((if_pos hc103))).symm.trans hbk)
      · refine own_st (fun _ k => XS.icmpYes X0.here hx rfl (pc0 := 103) (pc' := 197) rfl (hb hby d1_103) rfl ((own_i2 _ _ _).trans (own_nno (hc103 : ¬ ((8191 : Int32) < p0)))) (by decide) (by decide) k) ?_
        show own_Go p e below _ (T0.setTop (mkF m 197 #[.val (.int p0)] []))
        exact B197 T0 X0 e0 ((show own_a_92 p0 = own_a_197 p0 from ((if_neg hc96)).trans ((if_neg hc103))).symm.trans hbk)
  have B78 : ∀ (T0 : State), Stand p l e ({ frames := 0, cells := 0, slots := 0, locals := 0 } : Room) s m #[(.int p0)] below meth c T0 [] 0 0 → T0.heap = h0 → own_a_78 p0 = own_a_0 p0 → own_Go p e below (own_Post s (own_P (some (.int (own_a_0 p0))) h0) ({ frames := 0, cells := 0, slots := 0, locals := 0 } : Room).cells ({ frames := 0, cells := 0, slots := 0, locals := 0 } : Room).slots) (T0.setTop (mkF m 78 #[.val (.int p0)] [])) := by
    intro T0 X0 e0 hbk
    show own_Go p e below _ (T0.setTop (mkF m 78 #[.val (.int p0)] []))
    refine own_st (fun _ k => XS.iloadN X0.here hx rfl (hb hby d1_78) rfl k) ?_
    show own_Go p e below _ (T0.setTop (mkF m 79 #[.val (.int p0)] [(.int p0)]))
    refine own_st (fun _ k => XS.sipush X0.here hx rfl (hb hby d1_79) k) ?_
    show own_Go p e below _ (T0.setTop (mkF m 82 #[.val (.int p0)] [(.int (880 : Int32)), (.int p0)]))
    by_cases hc82 : p0 < (880 : Int32)
    · refine own_st (fun _ k => XS.icmpYes X0.here hx rfl (pc0 := 82) (pc' := 92) rfl (hb hby d1_82) rfl ((own_i2 _ _ _).trans (own_yes (hc82 : p0 < (880 : Int32)))) (by decide) (by decide) k) ?_
      show own_Go p e below _ (T0.setTop (mkF m 92 #[.val (.int p0)] []))
      exact B92 T0 X0 e0 ((show own_a_78 p0 = own_a_92 p0 from (if_pos hc82)).symm.trans hbk)
    · refine own_st (fun _ k => XS.icmpNo X0.here hx rfl (hb hby d1_82) rfl ((own_i2 _ _ _).trans (own_no (hc82 : ¬ (p0 < (880 : Int32))))) k) ?_
      show own_Go p e below _ (T0.setTop (mkF m 85 #[.val (.int p0)] []))
      refine own_st (fun _ k => XS.iloadN X0.here hx rfl (hb hby d1_85) rfl k) ?_
      show own_Go p e below _ (T0.setTop (mkF m 86 #[.val (.int p0)] [(.int p0)]))
      refine own_st (fun _ k => XS.sipush X0.here hx rfl (hb hby d1_86) k) ?_
      show own_Go p e below _ (T0.setTop (mkF m 89 #[.val (.int p0)] [(.int (893 : Int32)), (.int p0)]))
      by_cases hc89 : (893 : Int32) < p0
      · refine own_st (fun _ k => XS.icmpNo X0.here hx rfl (hb hby d1_89) rfl ((own_i2 _ _ _).trans (own_nyes (hc89 : (893 : Int32) < p0))) k) ?_
        show own_Go p e below _ (T0.setTop (mkF m 92 #[.val (.int p0)] []))
        exact B92 T0 X0 e0 ((show own_a_78 p0 = own_a_92 p0 from ((if_neg hc82)).trans ((if_pos hc89))).symm.trans hbk)
      · refine own_st (fun _ k => XS.icmpYes X0.here hx rfl (pc0 := 89) (pc' := 197) rfl (hb hby d1_89) rfl ((own_i2 _ _ _).trans (own_nno (hc89 : ¬ ((893 : Int32) < p0)))) (by decide) (by decide) k) ?_
        show own_Go p e below _ (T0.setTop (mkF m 197 #[.val (.int p0)] []))
        exact B197 T0 X0 e0 ((show own_a_78 p0 = own_a_197 p0 from ((if_neg hc82)).trans ((if_neg hc89))).symm.trans hbk)
  have B64 : ∀ (T0 : State), Stand p l e ({ frames := 0, cells := 0, slots := 0, locals := 0 } : Room) s m #[(.int p0)] below meth c T0 [] 0 0 → T0.heap = h0 → own_a_64 p0 = own_a_0 p0 → own_Go p e below (own_Post s (own_P (some (.int (own_a_0 p0))) h0) ({ frames := 0, cells := 0, slots := 0, locals := 0 } : Room).cells ({ frames := 0, cells := 0, slots := 0, locals := 0 } : Room).slots) (T0.setTop (mkF m 64 #[.val (.int p0)] [])) := by
    intro T0 X0 e0 hbk
    show own_Go p e below _ (T0.setTop (mkF m 64 #[.val (.int p0)] []))
    refine own_st (fun _ k => XS.iloadN X0.here hx rfl (hb hby d1_64) rfl k) ?_
    show own_Go p e below _ (T0.setTop (mkF m 65 #[.val (.int p0)] [(.int p0)]))
    refine own_st (fun _ k => XS.sipush X0.here hx rfl (hb hby d1_65) k) ?_
    show own_Go p e below _ (T0.setTop (mkF m 68 #[.val (.int p0)] [(.int (248 : Int32)), (.int p0)]))
    by_cases hc68 : p0 < (248 : Int32)
    · refine own_st (fun _ k => XS.icmpYes X0.here hx rfl (pc0 := 68) (pc' := 78) rfl (hb hby d1_68) rfl ((own_i2 _ _ _).trans (own_yes (hc68 : p0 < (248 : Int32)))) (by decide) (by decide) k) ?_
      show own_Go p e below _ (T0.setTop (mkF m 78 #[.val (.int p0)] []))
      exact B78 T0 X0 e0 ((show own_a_64 p0 = own_a_78 p0 from (if_pos hc68)).symm.trans hbk)
    · refine own_st (fun _ k => XS.icmpNo X0.here hx rfl (hb hby d1_68) rfl ((own_i2 _ _ _).trans (own_no (hc68 : ¬ (p0 < (248 : Int32))))) k) ?_
      show own_Go p e below _ (T0.setTop (mkF m 71 #[.val (.int p0)] []))
      refine own_st (fun _ k => XS.iloadN X0.here hx rfl (hb hby d1_71) rfl k) ?_
      show own_Go p e below _ (T0.setTop (mkF m 72 #[.val (.int p0)] [(.int p0)]))
      refine own_st (fun _ k => XS.sipush X0.here hx rfl (hb hby d1_72) k) ?_
      show own_Go p e below _ (T0.setTop (mkF m 75 #[.val (.int p0)] [(.int (767 : Int32)), (.int p0)]))
      by_cases hc75 : (767 : Int32) < p0
      · refine own_st (fun _ k => XS.icmpNo X0.here hx rfl (hb hby d1_75) rfl ((own_i2 _ _ _).trans (own_nyes (hc75 : (767 : Int32) < p0))) k) ?_
        show own_Go p e below _ (T0.setTop (mkF m 78 #[.val (.int p0)] []))
        exact B78 T0 X0 e0 ((show own_a_64 p0 = own_a_78 p0 from ((if_neg hc68)).trans ((if_pos hc75))).symm.trans hbk)
      · refine own_st (fun _ k => XS.icmpYes X0.here hx rfl (pc0 := 75) (pc' := 197) rfl (hb hby d1_75) rfl ((own_i2 _ _ _).trans (own_nno (hc75 : ¬ ((767 : Int32) < p0)))) (by decide) (by decide) k) ?_
        show own_Go p e below _ (T0.setTop (mkF m 197 #[.val (.int p0)] []))
        exact B197 T0 X0 e0 ((show own_a_64 p0 = own_a_197 p0 from ((if_neg hc68)).trans ((if_neg hc75))).symm.trans hbk)
  have B50 : ∀ (T0 : State), Stand p l e ({ frames := 0, cells := 0, slots := 0, locals := 0 } : Room) s m #[(.int p0)] below meth c T0 [] 0 0 → T0.heap = h0 → own_a_50 p0 = own_a_0 p0 → own_Go p e below (own_Post s (own_P (some (.int (own_a_0 p0))) h0) ({ frames := 0, cells := 0, slots := 0, locals := 0 } : Room).cells ({ frames := 0, cells := 0, slots := 0, locals := 0 } : Room).slots) (T0.setTop (mkF m 50 #[.val (.int p0)] [])) := by
    intro T0 X0 e0 hbk
    show own_Go p e below _ (T0.setTop (mkF m 50 #[.val (.int p0)] []))
    refine own_st (fun _ k => XS.iloadN X0.here hx rfl (hb hby d1_50) rfl k) ?_
    show own_Go p e below _ (T0.setTop (mkF m 51 #[.val (.int p0)] [(.int p0)]))
    refine own_st (fun _ k => XS.sipush X0.here hx rfl (hb hby d1_51) k) ?_
    show own_Go p e below _ (T0.setTop (mkF m 54 #[.val (.int p0)] [(.int (216 : Int32)), (.int p0)]))
    by_cases hc54 : p0 < (216 : Int32)
    · refine own_st (fun _ k => XS.icmpYes X0.here hx rfl (pc0 := 54) (pc' := 64) rfl (hb hby d1_54) rfl ((own_i2 _ _ _).trans (own_yes (hc54 : p0 < (216 : Int32)))) (by decide) (by decide) k) ?_
      show own_Go p e below _ (T0.setTop (mkF m 64 #[.val (.int p0)] []))
      exact B64 T0 X0 e0 ((show own_a_50 p0 = own_a_64 p0 from (if_pos hc54)).symm.trans hbk)
    · refine own_st (fun _ k => XS.icmpNo X0.here hx rfl (hb hby d1_54) rfl ((own_i2 _ _ _).trans (own_no (hc54 : ¬ (p0 < (216 : Int32))))) k) ?_
      show own_Go p e below _ (T0.setTop (mkF m 57 #[.val (.int p0)] []))
      refine own_st (fun _ k => XS.iloadN X0.here hx rfl (hb hby d1_57) rfl k) ?_
      show own_Go p e below _ (T0.setTop (mkF m 58 #[.val (.int p0)] [(.int p0)]))
      refine own_st (fun _ k => XS.sipush X0.here hx rfl (hb hby d1_58) k) ?_
      show own_Go p e below _ (T0.setTop (mkF m 61 #[.val (.int p0)] [(.int (246 : Int32)), (.int p0)]))
      by_cases hc61 : (246 : Int32) < p0
      · refine own_st (fun _ k => XS.icmpNo X0.here hx rfl (hb hby d1_61) rfl ((own_i2 _ _ _).trans (own_nyes (hc61 : (246 : Int32) < p0))) k) ?_
        show own_Go p e below _ (T0.setTop (mkF m 64 #[.val (.int p0)] []))
        exact B64 T0 X0 e0 ((show own_a_50 p0 = own_a_64 p0 from ((if_neg hc54)).trans ((if_pos hc61))).symm.trans hbk)
      · refine own_st (fun _ k => XS.icmpYes X0.here hx rfl (pc0 := 61) (pc' := 197) rfl (hb hby d1_61) rfl ((own_i2 _ _ _).trans (own_nno (hc61 : ¬ ((246 : Int32) < p0)))) (by decide) (by decide) k) ?_
        show own_Go p e below _ (T0.setTop (mkF m 197 #[.val (.int p0)] []))
        exact B197 T0 X0 e0 ((show own_a_50 p0 = own_a_197 p0 from ((if_neg hc54)).trans ((if_neg hc61))).symm.trans hbk)
  have B36 : ∀ (T0 : State), Stand p l e ({ frames := 0, cells := 0, slots := 0, locals := 0 } : Room) s m #[(.int p0)] below meth c T0 [] 0 0 → T0.heap = h0 → own_a_36 p0 = own_a_0 p0 → own_Go p e below (own_Post s (own_P (some (.int (own_a_0 p0))) h0) ({ frames := 0, cells := 0, slots := 0, locals := 0 } : Room).cells ({ frames := 0, cells := 0, slots := 0, locals := 0 } : Room).slots) (T0.setTop (mkF m 36 #[.val (.int p0)] [])) := by
    intro T0 X0 e0 hbk
    show own_Go p e below _ (T0.setTop (mkF m 36 #[.val (.int p0)] []))
    refine own_st (fun _ k => XS.iloadN X0.here hx rfl (hb hby d1_36) rfl k) ?_
    show own_Go p e below _ (T0.setTop (mkF m 37 #[.val (.int p0)] [(.int p0)]))
    refine own_st (fun _ k => XS.sipush X0.here hx rfl (hb hby d1_37) k) ?_
    show own_Go p e below _ (T0.setTop (mkF m 40 #[.val (.int p0)] [(.int (192 : Int32)), (.int p0)]))
    by_cases hc40 : p0 < (192 : Int32)
    · refine own_st (fun _ k => XS.icmpYes X0.here hx rfl (pc0 := 40) (pc' := 50) rfl (hb hby d1_40) rfl ((own_i2 _ _ _).trans (own_yes (hc40 : p0 < (192 : Int32)))) (by decide) (by decide) k) ?_
      show own_Go p e below _ (T0.setTop (mkF m 50 #[.val (.int p0)] []))
      exact B50 T0 X0 e0 ((show own_a_36 p0 = own_a_50 p0 from (if_pos hc40)).symm.trans hbk)
    · refine own_st (fun _ k => XS.icmpNo X0.here hx rfl (hb hby d1_40) rfl ((own_i2 _ _ _).trans (own_no (hc40 : ¬ (p0 < (192 : Int32))))) k) ?_
      show own_Go p e below _ (T0.setTop (mkF m 43 #[.val (.int p0)] []))
      refine own_st (fun _ k => XS.iloadN X0.here hx rfl (hb hby d1_43) rfl k) ?_
      show own_Go p e below _ (T0.setTop (mkF m 44 #[.val (.int p0)] [(.int p0)]))
      refine own_st (fun _ k => XS.sipush X0.here hx rfl (hb hby d1_44) k) ?_
      show own_Go p e below _ (T0.setTop (mkF m 47 #[.val (.int p0)] [(.int (214 : Int32)), (.int p0)]))
      by_cases hc47 : (214 : Int32) < p0
      · refine own_st (fun _ k => XS.icmpNo X0.here hx rfl (hb hby d1_47) rfl ((own_i2 _ _ _).trans (own_nyes (hc47 : (214 : Int32) < p0))) k) ?_
        show own_Go p e below _ (T0.setTop (mkF m 50 #[.val (.int p0)] []))
        exact B50 T0 X0 e0 ((show own_a_36 p0 = own_a_50 p0 from ((if_neg hc40)).trans ((if_pos hc47))).symm.trans hbk)
      · refine own_st (fun _ k => XS.icmpYes X0.here hx rfl (pc0 := 47) (pc' := 197) rfl (hb hby d1_47) rfl ((own_i2 _ _ _).trans (own_nno (hc47 : ¬ ((214 : Int32) < p0)))) (by decide) (by decide) k) ?_
        show own_Go p e below _ (T0.setTop (mkF m 197 #[.val (.int p0)] []))
        exact B197 T0 X0 e0 ((show own_a_36 p0 = own_a_197 p0 from ((if_neg hc40)).trans ((if_neg hc47))).symm.trans hbk)
  have B24 : ∀ (T0 : State), Stand p l e ({ frames := 0, cells := 0, slots := 0, locals := 0 } : Room) s m #[(.int p0)] below meth c T0 [] 0 0 → T0.heap = h0 → own_a_24 p0 = own_a_0 p0 → own_Go p e below (own_Post s (own_P (some (.int (own_a_0 p0))) h0) ({ frames := 0, cells := 0, slots := 0, locals := 0 } : Room).cells ({ frames := 0, cells := 0, slots := 0, locals := 0 } : Room).slots) (T0.setTop (mkF m 24 #[.val (.int p0)] [])) := by
    intro T0 X0 e0 hbk
    show own_Go p e below _ (T0.setTop (mkF m 24 #[.val (.int p0)] []))
    refine own_st (fun _ k => XS.iloadN X0.here hx rfl (hb hby d1_24) rfl k) ?_
    show own_Go p e below _ (T0.setTop (mkF m 25 #[.val (.int p0)] [(.int p0)]))
    refine own_st (fun _ k => XS.bipush X0.here hx rfl (hb hby d1_25) k) ?_
    show own_Go p e below _ (T0.setTop (mkF m 27 #[.val (.int p0)] [(.int (97 : Int32)), (.int p0)]))
    by_cases hc27 : p0 < (97 : Int32)
    · refine own_st (fun _ k => XS.icmpYes X0.here hx rfl (pc0 := 27) (pc' := 36) rfl (hb hby d1_27) rfl ((own_i2 _ _ _).trans (own_yes (hc27 : p0 < (97 : Int32)))) (by decide) (by decide) k) ?_
      show own_Go p e below _ (T0.setTop (mkF m 36 #[.val (.int p0)] []))
      exact B36 T0 X0 e0 ((show own_a_24 p0 = own_a_36 p0 from (if_pos hc27)).symm.trans hbk)
    · refine own_st (fun _ k => XS.icmpNo X0.here hx rfl (hb hby d1_27) rfl ((own_i2 _ _ _).trans (own_no (hc27 : ¬ (p0 < (97 : Int32))))) k) ?_
      show own_Go p e below _ (T0.setTop (mkF m 30 #[.val (.int p0)] []))
      refine own_st (fun _ k => XS.iloadN X0.here hx rfl (hb hby d1_30) rfl k) ?_
      show own_Go p e below _ (T0.setTop (mkF m 31 #[.val (.int p0)] [(.int p0)]))
      refine own_st (fun _ k => XS.bipush X0.here hx rfl (hb hby d1_31) k) ?_
      show own_Go p e below _ (T0.setTop (mkF m 33 #[.val (.int p0)] [(.int (122 : Int32)), (.int p0)]))
      by_cases hc33 : (122 : Int32) < p0
      · refine own_st (fun _ k => XS.icmpNo X0.here hx rfl (hb hby d1_33) rfl ((own_i2 _ _ _).trans (own_nyes (hc33 : (122 : Int32) < p0))) k) ?_
        show own_Go p e below _ (T0.setTop (mkF m 36 #[.val (.int p0)] []))
        exact B36 T0 X0 e0 ((show own_a_24 p0 = own_a_36 p0 from ((if_neg hc27)).trans ((if_pos hc33))).symm.trans hbk)
      · refine own_st (fun _ k => XS.icmpYes X0.here hx rfl (pc0 := 33) (pc' := 197) rfl (hb hby d1_33) rfl ((own_i2 _ _ _).trans (own_nno (hc33 : ¬ ((122 : Int32) < p0)))) (by decide) (by decide) k) ?_
        show own_Go p e below _ (T0.setTop (mkF m 197 #[.val (.int p0)] []))
        exact B197 T0 X0 e0 ((show own_a_24 p0 = own_a_197 p0 from ((if_neg hc27)).trans ((if_neg hc33))).symm.trans hbk)
  have B0 : ∀ (T0 : State), Stand p l e ({ frames := 0, cells := 0, slots := 0, locals := 0 } : Room) s m #[(.int p0)] below meth c T0 [] 0 0 → T0.heap = h0 → own_a_0 p0 = own_a_0 p0 → own_Go p e below (own_Post s (own_P (some (.int (own_a_0 p0))) h0) ({ frames := 0, cells := 0, slots := 0, locals := 0 } : Room).cells ({ frames := 0, cells := 0, slots := 0, locals := 0 } : Room).slots) (T0.setTop (mkF m 0 #[.val (.int p0)] [])) := by
    intro T0 X0 e0 hbk
    show own_Go p e below _ (T0.setTop (mkF m 0 #[.val (.int p0)] []))
    refine own_st (fun _ k => XS.iloadN X0.here hx rfl (hb hby d1_0) rfl k) ?_
    show own_Go p e below _ (T0.setTop (mkF m 1 #[.val (.int p0)] [(.int p0)]))
    refine own_st (fun _ k => XS.bipush X0.here hx rfl (hb hby d1_1) k) ?_
    show own_Go p e below _ (T0.setTop (mkF m 3 #[.val (.int p0)] [(.int (58 : Int32)), (.int p0)]))
    by_cases hc3 : p0 = (58 : Int32)
    · refine own_st (fun _ k => XS.icmpYes X0.here hx rfl (pc0 := 3) (pc' := 197) rfl (hb hby d1_3) rfl ((own_i2 _ _ _).trans (own_yes (hc3 : p0 = (58 : Int32)))) (by decide) (by decide) k) ?_
      show own_Go p e below _ (T0.setTop (mkF m 197 #[.val (.int p0)] []))
      exact B197 T0 X0 e0 ((show own_a_0 p0 = own_a_197 p0 from (if_pos hc3)).symm.trans hbk)
    · refine own_st (fun _ k => XS.icmpNo X0.here hx rfl (hb hby d1_3) rfl ((own_i2 _ _ _).trans (own_no (hc3 : ¬ (p0 = (58 : Int32))))) k) ?_
      show own_Go p e below _ (T0.setTop (mkF m 6 #[.val (.int p0)] []))
      refine own_st (fun _ k => XS.iloadN X0.here hx rfl (hb hby d1_6) rfl k) ?_
      show own_Go p e below _ (T0.setTop (mkF m 7 #[.val (.int p0)] [(.int p0)]))
      refine own_st (fun _ k => XS.bipush X0.here hx rfl (hb hby d1_7) k) ?_
      show own_Go p e below _ (T0.setTop (mkF m 9 #[.val (.int p0)] [(.int (95 : Int32)), (.int p0)]))
      by_cases hc9 : p0 = (95 : Int32)
      · refine own_st (fun _ k => XS.icmpYes X0.here hx rfl (pc0 := 9) (pc' := 197) rfl (hb hby d1_9) rfl ((own_i2 _ _ _).trans (own_yes (hc9 : p0 = (95 : Int32)))) (by decide) (by decide) k) ?_
        show own_Go p e below _ (T0.setTop (mkF m 197 #[.val (.int p0)] []))
        exact B197 T0 X0 e0 ((show own_a_0 p0 = own_a_197 p0 from ((if_neg hc3)).trans ((if_pos hc9))).symm.trans hbk)
      · refine own_st (fun _ k => XS.icmpNo X0.here hx rfl (hb hby d1_9) rfl ((own_i2 _ _ _).trans (own_no (hc9 : ¬ (p0 = (95 : Int32))))) k) ?_
        show own_Go p e below _ (T0.setTop (mkF m 12 #[.val (.int p0)] []))
        refine own_st (fun _ k => XS.iloadN X0.here hx rfl (hb hby d1_12) rfl k) ?_
        show own_Go p e below _ (T0.setTop (mkF m 13 #[.val (.int p0)] [(.int p0)]))
        refine own_st (fun _ k => XS.bipush X0.here hx rfl (hb hby d1_13) k) ?_
        show own_Go p e below _ (T0.setTop (mkF m 15 #[.val (.int p0)] [(.int (65 : Int32)), (.int p0)]))
        by_cases hc15 : p0 < (65 : Int32)
        · refine own_st (fun _ k => XS.icmpYes X0.here hx rfl (pc0 := 15) (pc' := 24) rfl (hb hby d1_15) rfl ((own_i2 _ _ _).trans (own_yes (hc15 : p0 < (65 : Int32)))) (by decide) (by decide) k) ?_
          show own_Go p e below _ (T0.setTop (mkF m 24 #[.val (.int p0)] []))
          exact B24 T0 X0 e0 ((show own_a_0 p0 = own_a_24 p0 from ((if_neg hc3)).trans (((if_neg hc9)).trans ((if_pos hc15)))).symm.trans hbk)
        · refine own_st (fun _ k => XS.icmpNo X0.here hx rfl (hb hby d1_15) rfl ((own_i2 _ _ _).trans (own_no (hc15 : ¬ (p0 < (65 : Int32))))) k) ?_
          show own_Go p e below _ (T0.setTop (mkF m 18 #[.val (.int p0)] []))
          refine own_st (fun _ k => XS.iloadN X0.here hx rfl (hb hby d1_18) rfl k) ?_
          show own_Go p e below _ (T0.setTop (mkF m 19 #[.val (.int p0)] [(.int p0)]))
          refine own_st (fun _ k => XS.bipush X0.here hx rfl (hb hby d1_19) k) ?_
          show own_Go p e below _ (T0.setTop (mkF m 21 #[.val (.int p0)] [(.int (90 : Int32)), (.int p0)]))
          by_cases hc21 : (90 : Int32) < p0
          · refine own_st (fun _ k => XS.icmpNo X0.here hx rfl (hb hby d1_21) rfl ((own_i2 _ _ _).trans (own_nyes (hc21 : (90 : Int32) < p0))) k) ?_
            show own_Go p e below _ (T0.setTop (mkF m 24 #[.val (.int p0)] []))
            exact B24 T0 X0 e0 ((show own_a_0 p0 = own_a_24 p0 from ((if_neg hc3)).trans (((if_neg hc9)).trans (((if_neg hc15)).trans ((if_pos hc21))))).symm.trans hbk)
          · refine own_st (fun _ k => XS.icmpYes X0.here hx rfl (pc0 := 21) (pc' := 197) rfl (hb hby d1_21) rfl ((own_i2 _ _ _).trans (own_nno (hc21 : ¬ ((90 : Int32) < p0)))) (by decide) (by decide) k) ?_
            show own_Go p e below _ (T0.setTop (mkF m 197 #[.val (.int p0)] []))
            exact B197 T0 X0 e0 ((show own_a_0 p0 = own_a_197 p0 from ((if_neg hc3)).trans (((if_neg hc9)).trans (((if_neg hc15)).trans ((if_neg hc21))))).symm.trans hbk)
  rw [ef_1]
  exact B0 _ X0 e0 rfl
def own_r_230 (p0 : Int32) : Int32 := (0 : Int32)
def own_r_220 (p0 : Int32) : Int32 := (if (65533 : Int32) < p0 then (own_r_230 p0) else (1 : Int32))
def own_r_208 (p0 : Int32) : Int32 := (if p0 < (64976 : Int32) then (own_r_220 p0) else (if (65007 : Int32) < p0 then (own_r_220 p0) else (own_r_230 p0)))
def own_r_200 (p0 : Int32) : Int32 := (if p0 < (63744 : Int32) then (0 : Int32) else (own_r_208 p0))
def own_r_192 (p0 : Int32) : Int32 := (if p0 < (55296 : Int32) then (1 : Int32) else (own_r_200 p0))
def own_r_190 (p0 : Int32) : Int32 := (0 : Int32)
def own_r_186 (p0 : Int32) : Int32 := (1 : Int32)
def own_r_172 (p0 : Int32) : Int32 := (if p0 < (11264 : Int32) then (own_r_190 p0) else (if (12271 : Int32) < p0 then (own_r_190 p0) else (own_r_186 p0)))
def own_r_137 (p0 : Int32) : Int32 := (if p0 < (12289 : Int32) then (if p0 = (8204 : Int32) then (own_r_186 p0) else (if p0 = (8205 : Int32) then (own_r_186 p0) else (if p0 < (8304 : Int32) then (own_r_172 p0) else (if (8591 : Int32) < p0 then (own_r_172 p0) else (own_r_186 p0))))) else (own_r_192 p0))
def own_r_135 (p0 : Int32) : Int32 := (0 : Int32)
def own_r_124 (p0 : Int32) : Int32 := (if p0 = (894 : Int32) then (own_r_135 p0) else (1 : Int32))
def own_r_103 (p0 : Int32) : Int32 := (if p0 < (8192 : Int32) then (if p0 < (768 : Int32) then (own_r_124 p0) else (if (879 : Int32) < p0 then (own_r_124 p0) else (own_r_135 p0))) else (own_r_137 p0))
def own_r_101 (p0 : Int32) : Int32 := (0 : Int32)
def own_r_69 (p0 : Int32) : Int32 := (if p0 < (256 : Int32) then (if p0 < (192 : Int32) then (own_r_101 p0) else (if p0 = (215 : Int32) then (own_r_101 p0) else (if p0 = (247 : Int32) then (own_r_101 p0) else (1 : Int32)))) else (own_r_103 p0))
def own_r_67 (p0 : Int32) : Int32 := (0 : Int32)
def own_r_63 (p0 : Int32) : Int32 := (1 : Int32)
def own_r_51 (p0 : Int32) : Int32 := (if p0 < (97 : Int32) then (own_r_67 p0) else (if (122 : Int32) < p0 then (own_r_67 p0) else (own_r_63 p0)))
def own_r_20 (p0 : Int32) : Int32 := (if p0 < (128 : Int32) then (if p0 = (58 : Int32) then (own_r_63 p0) else (if p0 = (95 : Int32) then (own_r_63 p0) else (if p0 < (65 : Int32) then (own_r_51 p0) else (if (90 : Int32) < p0 then (own_r_51 p0) else (own_r_63 p0))))) else (own_r_69 p0))
def own_r_12 (p0 : Int32) : Int32 := (if p0 < (65536 : Int32) then (own_r_20 p0) else (1 : Int32))
def own_r_10 (p0 : Int32) : Int32 := (0 : Int32)
def own_r_0 (p0 : Int32) : Int32 := (if p0 < (0 : Int32) then (own_r_10 p0) else (if (983039 : Int32) < p0 then (own_r_10 p0) else (own_r_12 p0)))
theorem d2_0 : decode method_2_code 0 = .ok (.iload_n 0, 1) := by decide +kernel
theorem d2_1 : decode method_2_code 1 = .ok (.ifCond .lt 9, 3) := by decide +kernel
theorem d2_4 : decode method_2_code 4 = .ok (.iload_n 0, 1) := by decide +kernel
theorem d2_5 : decode method_2_code 5 = .ok (.ldc 7, 2) := by decide +kernel
theorem d2_7 : decode method_2_code 7 = .ok (.if_icmp .le 5, 3) := by decide +kernel
theorem d2_10 : decode method_2_code 10 = .ok (.iconst 0, 1) := by decide +kernel
theorem d2_11 : decode method_2_code 11 = .ok (.ireturn, 1) := by decide +kernel
theorem d2_12 : decode method_2_code 12 = .ok (.iload_n 0, 1) := by decide +kernel
theorem d2_13 : decode method_2_code 13 = .ok (.ldc 8, 2) := by decide +kernel
theorem d2_15 : decode method_2_code 15 = .ok (.if_icmp .lt 5, 3) := by decide +kernel
theorem d2_18 : decode method_2_code 18 = .ok (.iconst 1, 1) := by decide +kernel
theorem d2_19 : decode method_2_code 19 = .ok (.ireturn, 1) := by decide +kernel
theorem d2_20 : decode method_2_code 20 = .ok (.iload_n 0, 1) := by decide +kernel
theorem d2_21 : decode method_2_code 21 = .ok (.sipush 128, 3) := by decide +kernel
theorem d2_24 : decode method_2_code 24 = .ok (.if_icmp .ge 45, 3) := by decide +kernel
theorem d2_27 : decode method_2_code 27 = .ok (.iload_n 0, 1) := by decide +kernel
theorem d2_28 : decode method_2_code 28 = .ok (.bipush 58, 2) := by decide +kernel
theorem d2_30 : decode method_2_code 30 = .ok (.if_icmp .eq 33, 3) := by decide +kernel
theorem d2_33 : decode method_2_code 33 = .ok (.iload_n 0, 1) := by decide +kernel
theorem d2_34 : decode method_2_code 34 = .ok (.bipush 95, 2) := by decide +kernel
theorem d2_36 : decode method_2_code 36 = .ok (.if_icmp .eq 27, 3) := by decide +kernel
theorem d2_39 : decode method_2_code 39 = .ok (.iload_n 0, 1) := by decide +kernel
theorem d2_40 : decode method_2_code 40 = .ok (.bipush 65, 2) := by decide +kernel
theorem d2_42 : decode method_2_code 42 = .ok (.if_icmp .lt 9, 3) := by decide +kernel
theorem d2_45 : decode method_2_code 45 = .ok (.iload_n 0, 1) := by decide +kernel
theorem d2_46 : decode method_2_code 46 = .ok (.bipush 90, 2) := by decide +kernel
theorem d2_48 : decode method_2_code 48 = .ok (.if_icmp .le 15, 3) := by decide +kernel
theorem d2_51 : decode method_2_code 51 = .ok (.iload_n 0, 1) := by decide +kernel
theorem d2_52 : decode method_2_code 52 = .ok (.bipush 97, 2) := by decide +kernel
theorem d2_54 : decode method_2_code 54 = .ok (.if_icmp .lt 13, 3) := by decide +kernel
theorem d2_57 : decode method_2_code 57 = .ok (.iload_n 0, 1) := by decide +kernel
theorem d2_58 : decode method_2_code 58 = .ok (.bipush 122, 2) := by decide +kernel
theorem d2_60 : decode method_2_code 60 = .ok (.if_icmp .gt 7, 3) := by decide +kernel
theorem d2_63 : decode method_2_code 63 = .ok (.iconst 1, 1) := by decide +kernel
theorem d2_64 : decode method_2_code 64 = .ok (.goto 4, 3) := by decide +kernel
theorem d2_67 : decode method_2_code 67 = .ok (.iconst 0, 1) := by decide +kernel
theorem d2_68 : decode method_2_code 68 = .ok (.ireturn, 1) := by decide +kernel
theorem d2_69 : decode method_2_code 69 = .ok (.iload_n 0, 1) := by decide +kernel
theorem d2_70 : decode method_2_code 70 = .ok (.sipush 256, 3) := by decide +kernel
theorem d2_73 : decode method_2_code 73 = .ok (.if_icmp .ge 30, 3) := by decide +kernel
theorem d2_76 : decode method_2_code 76 = .ok (.iload_n 0, 1) := by decide +kernel
theorem d2_77 : decode method_2_code 77 = .ok (.sipush 192, 3) := by decide +kernel
theorem d2_80 : decode method_2_code 80 = .ok (.if_icmp .lt 21, 3) := by decide +kernel
theorem d2_83 : decode method_2_code 83 = .ok (.iload_n 0, 1) := by decide +kernel
theorem d2_84 : decode method_2_code 84 = .ok (.sipush 215, 3) := by decide +kernel
theorem d2_87 : decode method_2_code 87 = .ok (.if_icmp .eq 14, 3) := by decide +kernel
theorem d2_90 : decode method_2_code 90 = .ok (.iload_n 0, 1) := by decide +kernel
theorem d2_91 : decode method_2_code 91 = .ok (.sipush 247, 3) := by decide +kernel
theorem d2_94 : decode method_2_code 94 = .ok (.if_icmp .eq 7, 3) := by decide +kernel
theorem d2_97 : decode method_2_code 97 = .ok (.iconst 1, 1) := by decide +kernel
theorem d2_98 : decode method_2_code 98 = .ok (.goto 4, 3) := by decide +kernel
theorem d2_101 : decode method_2_code 101 = .ok (.iconst 0, 1) := by decide +kernel
theorem d2_102 : decode method_2_code 102 = .ok (.ireturn, 1) := by decide +kernel
theorem d2_103 : decode method_2_code 103 = .ok (.iload_n 0, 1) := by decide +kernel
theorem d2_104 : decode method_2_code 104 = .ok (.sipush 8192, 3) := by decide +kernel
theorem d2_107 : decode method_2_code 107 = .ok (.if_icmp .ge 30, 3) := by decide +kernel
theorem d2_110 : decode method_2_code 110 = .ok (.iload_n 0, 1) := by decide +kernel
theorem d2_111 : decode method_2_code 111 = .ok (.sipush 768, 3) := by decide +kernel
theorem d2_114 : decode method_2_code 114 = .ok (.if_icmp .lt 10, 3) := by decide +kernel
theorem d2_117 : decode method_2_code 117 = .ok (.iload_n 0, 1) := by decide +kernel
theorem d2_118 : decode method_2_code 118 = .ok (.sipush 879, 3) := by decide +kernel
theorem d2_121 : decode method_2_code 121 = .ok (.if_icmp .le 14, 3) := by decide +kernel
theorem d2_124 : decode method_2_code 124 = .ok (.iload_n 0, 1) := by decide +kernel
theorem d2_125 : decode method_2_code 125 = .ok (.sipush 894, 3) := by decide +kernel
theorem d2_128 : decode method_2_code 128 = .ok (.if_icmp .eq 7, 3) := by decide +kernel
theorem d2_131 : decode method_2_code 131 = .ok (.iconst 1, 1) := by decide +kernel
theorem d2_132 : decode method_2_code 132 = .ok (.goto 4, 3) := by decide +kernel
theorem d2_135 : decode method_2_code 135 = .ok (.iconst 0, 1) := by decide +kernel
theorem d2_136 : decode method_2_code 136 = .ok (.ireturn, 1) := by decide +kernel
theorem d2_137 : decode method_2_code 137 = .ok (.iload_n 0, 1) := by decide +kernel
theorem d2_138 : decode method_2_code 138 = .ok (.sipush 12289, 3) := by decide +kernel
theorem d2_141 : decode method_2_code 141 = .ok (.if_icmp .ge 51, 3) := by decide +kernel
theorem d2_144 : decode method_2_code 144 = .ok (.iload_n 0, 1) := by decide +kernel
theorem d2_145 : decode method_2_code 145 = .ok (.sipush 8204, 3) := by decide +kernel
theorem d2_148 : decode method_2_code 148 = .ok (.if_icmp .eq 38, 3) := by decide +kernel
theorem d2_151 : decode method_2_code 151 = .ok (.iload_n 0, 1) := by decide +kernel
theorem d2_152 : decode method_2_code 152 = .ok (.sipush 8205, 3) := by decide +kernel
theorem d2_155 : decode method_2_code 155 = .ok (.if_icmp .eq 31, 3) := by decide +kernel
theorem d2_158 : decode method_2_code 158 = .ok (.iload_n 0, 1) := by decide +kernel
theorem d2_159 : decode method_2_code 159 = .ok (.sipush 8304, 3) := by decide +kernel
theorem d2_162 : decode method_2_code 162 = .ok (.if_icmp .lt 10, 3) := by decide +kernel
theorem d2_165 : decode method_2_code 165 = .ok (.iload_n 0, 1) := by decide +kernel
theorem d2_166 : decode method_2_code 166 = .ok (.sipush 8591, 3) := by decide +kernel
theorem d2_169 : decode method_2_code 169 = .ok (.if_icmp .le 17, 3) := by decide +kernel
theorem d2_172 : decode method_2_code 172 = .ok (.iload_n 0, 1) := by decide +kernel
theorem d2_173 : decode method_2_code 173 = .ok (.sipush 11264, 3) := by decide +kernel
theorem d2_176 : decode method_2_code 176 = .ok (.if_icmp .lt 14, 3) := by decide +kernel
theorem d2_179 : decode method_2_code 179 = .ok (.iload_n 0, 1) := by decide +kernel
theorem d2_180 : decode method_2_code 180 = .ok (.sipush 12271, 3) := by decide +kernel
theorem d2_183 : decode method_2_code 183 = .ok (.if_icmp .gt 7, 3) := by decide +kernel
theorem d2_186 : decode method_2_code 186 = .ok (.iconst 1, 1) := by decide +kernel
theorem d2_187 : decode method_2_code 187 = .ok (.goto 4, 3) := by decide +kernel
theorem d2_190 : decode method_2_code 190 = .ok (.iconst 0, 1) := by decide +kernel
theorem d2_191 : decode method_2_code 191 = .ok (.ireturn, 1) := by decide +kernel
theorem d2_192 : decode method_2_code 192 = .ok (.iload_n 0, 1) := by decide +kernel
theorem d2_193 : decode method_2_code 193 = .ok (.ldc 9, 2) := by decide +kernel
theorem d2_195 : decode method_2_code 195 = .ok (.if_icmp .ge 5, 3) := by decide +kernel
theorem d2_198 : decode method_2_code 198 = .ok (.iconst 1, 1) := by decide +kernel
theorem d2_199 : decode method_2_code 199 = .ok (.ireturn, 1) := by decide +kernel
theorem d2_200 : decode method_2_code 200 = .ok (.iload_n 0, 1) := by decide +kernel
theorem d2_201 : decode method_2_code 201 = .ok (.ldc 10, 2) := by decide +kernel
theorem d2_203 : decode method_2_code 203 = .ok (.if_icmp .ge 5, 3) := by decide +kernel
theorem d2_206 : decode method_2_code 206 = .ok (.iconst 0, 1) := by decide +kernel
theorem d2_207 : decode method_2_code 207 = .ok (.ireturn, 1) := by decide +kernel
theorem d2_208 : decode method_2_code 208 = .ok (.iload_n 0, 1) := by decide +kernel
theorem d2_209 : decode method_2_code 209 = .ok (.ldc 11, 2) := by decide +kernel
theorem d2_211 : decode method_2_code 211 = .ok (.if_icmp .lt 9, 3) := by decide +kernel
theorem d2_214 : decode method_2_code 214 = .ok (.iload_n 0, 1) := by decide +kernel
theorem d2_215 : decode method_2_code 215 = .ok (.ldc 12, 2) := by decide +kernel
theorem d2_217 : decode method_2_code 217 = .ok (.if_icmp .le 13, 3) := by decide +kernel
theorem d2_220 : decode method_2_code 220 = .ok (.iload_n 0, 1) := by decide +kernel
theorem d2_221 : decode method_2_code 221 = .ok (.ldc 13, 2) := by decide +kernel
theorem d2_223 : decode method_2_code 223 = .ok (.if_icmp .gt 7, 3) := by decide +kernel
theorem d2_226 : decode method_2_code 226 = .ok (.iconst 1, 1) := by decide +kernel
theorem d2_227 : decode method_2_code 227 = .ok (.goto 4, 3) := by decide +kernel
theorem d2_230 : decode method_2_code 230 = .ok (.iconst 0, 1) := by decide +kernel
theorem d2_231 : decode method_2_code 231 = .ok (.ireturn, 1) := by decide +kernel
theorem pn_2 : plainFor (⟨"com/example/early_sieve/earlysieve/io/XmlCharactersIsNameStartPinLaw", "ref", "(I)Z"⟩ : MethodName) = true := plainFor_of_name (by first | (simp [plainName, overriddenIn]; done) | decide +kernel)
theorem ef_2 (m : MethodId) (x0 : Int32) : entryFrame m #[(.int x0)] 1 = mkF m 0 #[.val (.int x0)] [] := by first | (simp [entryFrame, mkF, argsToLocals, Value.category]; done) | rfl
set_option maxRecDepth 65536 in
set_option maxHeartbeats 40000000 in
theorem rm2 (l : Launch) (Z : State) (tA : Array Value) (hw : ∀ d ∈ tables_1, d.before tA Z = true) (p0 : Int32) (h0 : Heap) :
    own_Met l Z (⟨"com/example/early_sieve/earlysieve/io/XmlCharactersIsNameStartPinLaw", "ref", "(I)Z"⟩ : MethodName) method_2_code 1 (some .boolean) ({ frames := 0, cells := 0, slots := 0, locals := 0 } : Room) #[(.int p0)] h0 (own_P (some (.int (own_r_0 p0))) h0) := by
  refine own_body pn_2 ?_
  intro p e s m below meth c s₁ X0 hx hZ hby hml hown hret hlk hnm e0
  have B230 : ∀ (T0 : State), Stand p l e ({ frames := 0, cells := 0, slots := 0, locals := 0 } : Room) s m #[(.int p0)] below meth c T0 [] 0 0 → T0.heap = h0 → own_r_230 p0 = own_r_0 p0 → own_Go p e below (own_Post s (own_P (some (.int (own_r_0 p0))) h0) ({ frames := 0, cells := 0, slots := 0, locals := 0 } : Room).cells ({ frames := 0, cells := 0, slots := 0, locals := 0 } : Room).slots) (T0.setTop (mkF m 230 #[.val (.int p0)] [])) := by
    intro T0 X0 e0 hbk
    show own_Go p e below _ (T0.setTop (mkF m 230 #[.val (.int p0)] []))
    refine own_st (fun _ k => XS.iconst X0.here hx rfl (hb hby d2_230) k) ?_
    show own_Go p e below _ (T0.setTop (mkF m 231 #[.val (.int p0)] [(.int (0 : Int32))]))
    exact own_retZ X0 hx hlk hret rfl (hb hby d2_231) ⟨congrArg (fun z => some (Value.int z)) ((show own_r_230 p0 = (0 : Int32) from rfl).symm.trans hbk), rfl, e0⟩ (by decide) (by decide)
  have B220 : ∀ (T0 : State), Stand p l e ({ frames := 0, cells := 0, slots := 0, locals := 0 } : Room) s m #[(.int p0)] below meth c T0 [] 0 0 → T0.heap = h0 → own_r_220 p0 = own_r_0 p0 → own_Go p e below (own_Post s (own_P (some (.int (own_r_0 p0))) h0) ({ frames := 0, cells := 0, slots := 0, locals := 0 } : Room).cells ({ frames := 0, cells := 0, slots := 0, locals := 0 } : Room).slots) (T0.setTop (mkF m 220 #[.val (.int p0)] [])) := by
    intro T0 X0 e0 hbk
    show own_Go p e below _ (T0.setTop (mkF m 220 #[.val (.int p0)] []))
    refine own_st (fun _ k => XS.iloadN X0.here hx rfl (hb hby d2_220) rfl k) ?_
    show own_Go p e below _ (T0.setTop (mkF m 221 #[.val (.int p0)] [(.int p0)]))
    refine own_st (fun _ k => X0.ldcInt hx hown (mvT hZ (hw _ (List.mem_of_getElem? (i := 5) rfl))) (g := (mkF m 221 #[.val (.int p0)] [(.int p0)])) rfl (hb hby d2_221) _ k) ?_
    show own_Go p e below _ (T0.setTop (mkF m 223 #[.val (.int p0)] [(.int (65533 : Int32)), (.int p0)]))
    by_cases hc223 : (65533 : Int32) < p0
    · refine own_st (fun _ k => XS.icmpYes X0.here hx rfl (pc0 := 223) (pc' := 230) rfl (hb hby d2_223) rfl ((own_i2 _ _ _).trans (own_yes (hc223 : (65533 : Int32) < p0))) (by decide) (by decide) k) ?_
      show own_Go p e below _ (T0.setTop (mkF m 230 #[.val (.int p0)] []))
      exact B230 T0 X0 e0 ((show own_r_220 p0 = own_r_230 p0 from (if_pos hc223)).symm.trans hbk)
    · refine own_st (fun _ k => XS.icmpNo X0.here hx rfl (hb hby d2_223) rfl ((own_i2 _ _ _).trans (own_no (hc223 : ¬ ((65533 : Int32) < p0)))) k) ?_
      show own_Go p e below _ (T0.setTop (mkF m 226 #[.val (.int p0)] []))
      refine own_st (fun _ k => XS.iconst X0.here hx rfl (hb hby d2_226) k) ?_
      show own_Go p e below _ (T0.setTop (mkF m 227 #[.val (.int p0)] [(.int (1 : Int32))]))
      refine own_st (fun _ k => XS.goto X0.here hx rfl (pc0 := 227) (pc' := 231) rfl (hb hby d2_227) (by decide) (by decide) k) ?_
      show own_Go p e below _ (T0.setTop (mkF m 231 #[.val (.int p0)] [(.int (1 : Int32))]))
      exact own_retZ X0 hx hlk hret rfl (hb hby d2_231) ⟨congrArg (fun z => some (Value.int z)) ((show own_r_220 p0 = (1 : Int32) from (if_neg hc223)).symm.trans hbk), rfl, e0⟩ (by decide) (by decide)
  have B208 : ∀ (T0 : State), Stand p l e ({ frames := 0, cells := 0, slots := 0, locals := 0 } : Room) s m #[(.int p0)] below meth c T0 [] 0 0 → T0.heap = h0 → own_r_208 p0 = own_r_0 p0 → own_Go p e below (own_Post s (own_P (some (.int (own_r_0 p0))) h0) ({ frames := 0, cells := 0, slots := 0, locals := 0 } : Room).cells ({ frames := 0, cells := 0, slots := 0, locals := 0 } : Room).slots) (T0.setTop (mkF m 208 #[.val (.int p0)] [])) := by
    intro T0 X0 e0 hbk
    show own_Go p e below _ (T0.setTop (mkF m 208 #[.val (.int p0)] []))
    refine own_st (fun _ k => XS.iloadN X0.here hx rfl (hb hby d2_208) rfl k) ?_
    show own_Go p e below _ (T0.setTop (mkF m 209 #[.val (.int p0)] [(.int p0)]))
    refine own_st (fun _ k => X0.ldcInt hx hown (mvT hZ (hw _ (List.mem_of_getElem? (i := 24) rfl))) (g := (mkF m 209 #[.val (.int p0)] [(.int p0)])) rfl (hb hby d2_209) _ k) ?_
    show own_Go p e below _ (T0.setTop (mkF m 211 #[.val (.int p0)] [(.int (64976 : Int32)), (.int p0)]))
    by_cases hc211 : p0 < (64976 : Int32)
    · refine own_st (fun _ k => XS.icmpYes X0.here hx rfl (pc0 := 211) (pc' := 220) rfl (hb hby d2_211) rfl ((own_i2 _ _ _).trans (own_yes (hc211 : p0 < (64976 : Int32)))) (by decide) (by decide) k) ?_
      show own_Go p e below _ (T0.setTop (mkF m 220 #[.val (.int p0)] []))
      exact B220 T0 X0 e0 ((show own_r_208 p0 = own_r_220 p0 from (if_pos hc211)).symm.trans hbk)
    · refine own_st (fun _ k => XS.icmpNo X0.here hx rfl (hb hby d2_211) rfl ((own_i2 _ _ _).trans (own_no (hc211 : ¬ (p0 < (64976 : Int32))))) k) ?_
      show own_Go p e below _ (T0.setTop (mkF m 214 #[.val (.int p0)] []))
      refine own_st (fun _ k => XS.iloadN X0.here hx rfl (hb hby d2_214) rfl k) ?_
      show own_Go p e below _ (T0.setTop (mkF m 215 #[.val (.int p0)] [(.int p0)]))
      refine own_st (fun _ k => X0.ldcInt hx hown (mvT hZ (hw _ (List.mem_of_getElem? (i := 25) rfl))) (g := (mkF m 215 #[.val (.int p0)] [(.int p0)])) rfl (hb hby d2_215) _ k) ?_
      show own_Go p e below _ (T0.setTop (mkF m 217 #[.val (.int p0)] [(.int (65007 : Int32)), (.int p0)]))
      by_cases hc217 : (65007 : Int32) < p0
      · refine own_st (fun _ k => XS.icmpNo X0.here hx rfl (hb hby d2_217) rfl ((own_i2 _ _ _).trans (own_nyes (hc217 : (65007 : Int32) < p0))) k) ?_
        show own_Go p e below _ (T0.setTop (mkF m 220 #[.val (.int p0)] []))
        exact B220 T0 X0 e0 ((show own_r_208 p0 = own_r_220 p0 from ((if_neg hc211)).trans ((if_pos hc217))).symm.trans hbk)
      · refine own_st (fun _ k => XS.icmpYes X0.here hx rfl (pc0 := 217) (pc' := 230) rfl (hb hby d2_217) rfl ((own_i2 _ _ _).trans (own_nno (hc217 : ¬ ((65007 : Int32) < p0)))) (by decide) (by decide) k) ?_
        show own_Go p e below _ (T0.setTop (mkF m 230 #[.val (.int p0)] []))
        exact B230 T0 X0 e0 ((show own_r_208 p0 = own_r_230 p0 from ((if_neg hc211)).trans ((if_neg hc217))).symm.trans hbk)
  have B200 : ∀ (T0 : State), Stand p l e ({ frames := 0, cells := 0, slots := 0, locals := 0 } : Room) s m #[(.int p0)] below meth c T0 [] 0 0 → T0.heap = h0 → own_r_200 p0 = own_r_0 p0 → own_Go p e below (own_Post s (own_P (some (.int (own_r_0 p0))) h0) ({ frames := 0, cells := 0, slots := 0, locals := 0 } : Room).cells ({ frames := 0, cells := 0, slots := 0, locals := 0 } : Room).slots) (T0.setTop (mkF m 200 #[.val (.int p0)] [])) := by
    intro T0 X0 e0 hbk
    show own_Go p e below _ (T0.setTop (mkF m 200 #[.val (.int p0)] []))
    refine own_st (fun _ k => XS.iloadN X0.here hx rfl (hb hby d2_200) rfl k) ?_
    show own_Go p e below _ (T0.setTop (mkF m 201 #[.val (.int p0)] [(.int p0)]))
    refine own_st (fun _ k => X0.ldcInt hx hown (mvT hZ (hw _ (List.mem_of_getElem? (i := 2) rfl))) (g := (mkF m 201 #[.val (.int p0)] [(.int p0)])) rfl (hb hby d2_201) _ k) ?_
    show own_Go p e below _ (T0.setTop (mkF m 203 #[.val (.int p0)] [(.int (63744 : Int32)), (.int p0)]))
    by_cases hc203 : p0 < (63744 : Int32)
    · refine own_st (fun _ k => XS.icmpNo X0.here hx rfl (hb hby d2_203) rfl ((own_i2 _ _ _).trans (own_nyes (hc203 : p0 < (63744 : Int32)))) k) ?_
      show own_Go p e below _ (T0.setTop (mkF m 206 #[.val (.int p0)] []))
      refine own_st (fun _ k => XS.iconst X0.here hx rfl (hb hby d2_206) k) ?_
      show own_Go p e below _ (T0.setTop (mkF m 207 #[.val (.int p0)] [(.int (0 : Int32))]))
      exact own_retZ X0 hx hlk hret rfl (hb hby d2_207) ⟨congrArg (fun z => some (Value.int z)) ((show own_r_200 p0 = (0 : Int32) from (if_pos hc203)).symm.trans hbk), rfl, e0⟩ (by decide) (by decide)
    · refine own_st (fun _ k => XS.icmpYes X0.here hx rfl (pc0 := 203) (pc' := 208) rfl (hb hby d2_203) rfl ((own_i2 _ _ _).trans (own_nno (hc203 : ¬ (p0 < (63744 : Int32))))) (by decide) (by decide) k) ?_
      show own_Go p e below _ (T0.setTop (mkF m 208 #[.val (.int p0)] []))
      exact B208 T0 X0 e0 ((show own_r_200 p0 = own_r_208 p0 from (if_neg hc203)).symm.trans hbk)
  have B192 : ∀ (T0 : State), Stand p l e ({ frames := 0, cells := 0, slots := 0, locals := 0 } : Room) s m #[(.int p0)] below meth c T0 [] 0 0 → T0.heap = h0 → own_r_192 p0 = own_r_0 p0 → own_Go p e below (own_Post s (own_P (some (.int (own_r_0 p0))) h0) ({ frames := 0, cells := 0, slots := 0, locals := 0 } : Room).cells ({ frames := 0, cells := 0, slots := 0, locals := 0 } : Room).slots) (T0.setTop (mkF m 192 #[.val (.int p0)] [])) := by
    intro T0 X0 e0 hbk
    show own_Go p e below _ (T0.setTop (mkF m 192 #[.val (.int p0)] []))
    refine own_st (fun _ k => XS.iloadN X0.here hx rfl (hb hby d2_192) rfl k) ?_
    show own_Go p e below _ (T0.setTop (mkF m 193 #[.val (.int p0)] [(.int p0)]))
    refine own_st (fun _ k => X0.ldcInt hx hown (mvT hZ (hw _ (List.mem_of_getElem? (i := 23) rfl))) (g := (mkF m 193 #[.val (.int p0)] [(.int p0)])) rfl (hb hby d2_193) _ k) ?_
    show own_Go p e below _ (T0.setTop (mkF m 195 #[.val (.int p0)] [(.int (55296 : Int32)), (.int p0)]))
    by_cases hc195 : p0 < (55296 : Int32)
    · refine own_st (fun _ k => XS.icmpNo X0.here hx rfl (hb hby d2_195) rfl ((own_i2 _ _ _).trans (own_nyes (hc195 : p0 < (55296 : Int32)))) k) ?_
      show own_Go p e below _ (T0.setTop (mkF m 198 #[.val (.int p0)] []))
      refine own_st (fun _ k => XS.iconst X0.here hx rfl (hb hby d2_198) k) ?_
      show own_Go p e below _ (T0.setTop (mkF m 199 #[.val (.int p0)] [(.int (1 : Int32))]))
      exact own_retZ X0 hx hlk hret rfl (hb hby d2_199) ⟨congrArg (fun z => some (Value.int z)) ((show own_r_192 p0 = (1 : Int32) from (if_pos hc195)).symm.trans hbk), rfl, e0⟩ (by decide) (by decide)
    · refine own_st (fun _ k => XS.icmpYes X0.here hx rfl (pc0 := 195) (pc' := 200) rfl (hb hby d2_195) rfl ((own_i2 _ _ _).trans (own_nno (hc195 : ¬ (p0 < (55296 : Int32))))) (by decide) (by decide) k) ?_
      show own_Go p e below _ (T0.setTop (mkF m 200 #[.val (.int p0)] []))
      exact B200 T0 X0 e0 ((show own_r_192 p0 = own_r_200 p0 from (if_neg hc195)).symm.trans hbk)
  have B190 : ∀ (T0 : State), Stand p l e ({ frames := 0, cells := 0, slots := 0, locals := 0 } : Room) s m #[(.int p0)] below meth c T0 [] 0 0 → T0.heap = h0 → own_r_190 p0 = own_r_0 p0 → own_Go p e below (own_Post s (own_P (some (.int (own_r_0 p0))) h0) ({ frames := 0, cells := 0, slots := 0, locals := 0 } : Room).cells ({ frames := 0, cells := 0, slots := 0, locals := 0 } : Room).slots) (T0.setTop (mkF m 190 #[.val (.int p0)] [])) := by
    intro T0 X0 e0 hbk
    show own_Go p e below _ (T0.setTop (mkF m 190 #[.val (.int p0)] []))
    refine own_st (fun _ k => XS.iconst X0.here hx rfl (hb hby d2_190) k) ?_
    show own_Go p e below _ (T0.setTop (mkF m 191 #[.val (.int p0)] [(.int (0 : Int32))]))
    exact own_retZ X0 hx hlk hret rfl (hb hby d2_191) ⟨congrArg (fun z => some (Value.int z)) ((show own_r_190 p0 = (0 : Int32) from rfl).symm.trans hbk), rfl, e0⟩ (by decide) (by decide)
  have B186 : ∀ (T0 : State), Stand p l e ({ frames := 0, cells := 0, slots := 0, locals := 0 } : Room) s m #[(.int p0)] below meth c T0 [] 0 0 → T0.heap = h0 → own_r_186 p0 = own_r_0 p0 → own_Go p e below (own_Post s (own_P (some (.int (own_r_0 p0))) h0) ({ frames := 0, cells := 0, slots := 0, locals := 0 } : Room).cells ({ frames := 0, cells := 0, slots := 0, locals := 0 } : Room).slots) (T0.setTop (mkF m 186 #[.val (.int p0)] [])) := by
    intro T0 X0 e0 hbk
    show own_Go p e below _ (T0.setTop (mkF m 186 #[.val (.int p0)] []))
    refine own_st (fun _ k => XS.iconst X0.here hx rfl (hb hby d2_186) k) ?_
    show own_Go p e below _ (T0.setTop (mkF m 187 #[.val (.int p0)] [(.int (1 : Int32))]))
    refine own_st (fun _ k => XS.goto X0.here hx rfl (pc0 := 187) (pc' := 191) rfl (hb hby d2_187) (by decide) (by decide) k) ?_
    show own_Go p e below _ (T0.setTop (mkF m 191 #[.val (.int p0)] [(.int (1 : Int32))]))
    exact own_retZ X0 hx hlk hret rfl (hb hby d2_191) ⟨congrArg (fun z => some (Value.int z)) ((show own_r_186 p0 = (1 : Int32) from rfl).symm.trans hbk), rfl, e0⟩ (by decide) (by decide)
  have B172 : ∀ (T0 : State), Stand p l e ({ frames := 0, cells := 0, slots := 0, locals := 0 } : Room) s m #[(.int p0)] below meth c T0 [] 0 0 → T0.heap = h0 → own_r_172 p0 = own_r_0 p0 → own_Go p e below (own_Post s (own_P (some (.int (own_r_0 p0))) h0) ({ frames := 0, cells := 0, slots := 0, locals := 0 } : Room).cells ({ frames := 0, cells := 0, slots := 0, locals := 0 } : Room).slots) (T0.setTop (mkF m 172 #[.val (.int p0)] [])) := by
    intro T0 X0 e0 hbk
    show own_Go p e below _ (T0.setTop (mkF m 172 #[.val (.int p0)] []))
    refine own_st (fun _ k => XS.iloadN X0.here hx rfl (hb hby d2_172) rfl k) ?_
    show own_Go p e below _ (T0.setTop (mkF m 173 #[.val (.int p0)] [(.int p0)]))
    refine own_st (fun _ k => XS.sipush X0.here hx rfl (hb hby d2_173) k) ?_
    show own_Go p e below _ (T0.setTop (mkF m 176 #[.val (.int p0)] [(.int (11264 : Int32)), (.int p0)]))
    by_cases hc176 : p0 < (11264 : Int32)
    · refine own_st (fun _ k => XS.icmpYes X0.here hx rfl (pc0 := 176) (pc' := 190) rfl (hb hby d2_176) rfl ((own_i2 _ _ _).trans (own_yes (hc176 : p0 < (11264 : Int32)))) (by decide) (by decide) k) ?_
      show own_Go p e below _ (T0.setTop (mkF m 190 #[.val (.int p0)] []))
      exact B190 T0 X0 e0 ((show own_r_172 p0 = own_r_190 p0 from (if_pos hc176)).symm.trans hbk)
    · refine own_st (fun _ k => XS.icmpNo X0.here hx rfl (hb hby d2_176) rfl ((own_i2 _ _ _).trans (own_no (hc176 : ¬ (p0 < (11264 : Int32))))) k) ?_
      show own_Go p e below _ (T0.setTop (mkF m 179 #[.val (.int p0)] []))
      refine own_st (fun _ k => XS.iloadN X0.here hx rfl (hb hby d2_179) rfl k) ?_
      show own_Go p e below _ (T0.setTop (mkF m 180 #[.val (.int p0)] [(.int p0)]))
      refine own_st (fun _ k => XS.sipush X0.here hx rfl (hb hby d2_180) k) ?_
      show own_Go p e below _ (T0.setTop (mkF m 183 #[.val (.int p0)] [(.int (12271 : Int32)), (.int p0)]))
      by_cases hc183 : (12271 : Int32) < p0
      · refine own_st (fun _ k => XS.icmpYes X0.here hx rfl (pc0 := 183) (pc' := 190) rfl (hb hby d2_183) rfl ((own_i2 _ _ _).trans (own_yes (hc183 : (12271 : Int32) < p0))) (by decide) (by decide) k) ?_
        show own_Go p e below _ (T0.setTop (mkF m 190 #[.val (.int p0)] []))
        exact B190 T0 X0 e0 ((show own_r_172 p0 = own_r_190 p0 from ((if_neg hc176)).trans ((if_pos hc183))).symm.trans hbk)
      · refine own_st (fun _ k => XS.icmpNo X0.here hx rfl (hb hby d2_183) rfl ((own_i2 _ _ _).trans (own_no (hc183 : ¬ ((12271 : Int32) < p0)))) k) ?_
        show own_Go p e below _ (T0.setTop (mkF m 186 #[.val (.int p0)] []))
        exact B186 T0 X0 e0 ((show own_r_172 p0 = own_r_186 p0 from ((if_neg hc176)).trans ((if_neg hc183))).symm.trans hbk)
  have B137 : ∀ (T0 : State), Stand p l e ({ frames := 0, cells := 0, slots := 0, locals := 0 } : Room) s m #[(.int p0)] below meth c T0 [] 0 0 → T0.heap = h0 → own_r_137 p0 = own_r_0 p0 → own_Go p e below (own_Post s (own_P (some (.int (own_r_0 p0))) h0) ({ frames := 0, cells := 0, slots := 0, locals := 0 } : Room).cells ({ frames := 0, cells := 0, slots := 0, locals := 0 } : Room).slots) (T0.setTop (mkF m 137 #[.val (.int p0)] [])) := by
    intro T0 X0 e0 hbk
    show own_Go p e below _ (T0.setTop (mkF m 137 #[.val (.int p0)] []))
    refine own_st (fun _ k => XS.iloadN X0.here hx rfl (hb hby d2_137) rfl k) ?_
    show own_Go p e below _ (T0.setTop (mkF m 138 #[.val (.int p0)] [(.int p0)]))
    refine own_st (fun _ k => XS.sipush X0.here hx rfl (hb hby d2_138) k) ?_
    show own_Go p e below _ (T0.setTop (mkF m 141 #[.val (.int p0)] [(.int (12289 : Int32)), (.int p0)]))
    by_cases hc141 : p0 < (12289 : Int32)
    · refine own_st (fun _ k => XS.icmpNo X0.here hx rfl (hb hby d2_141) rfl ((own_i2 _ _ _).trans (own_nyes (hc141 : p0 < (12289 : Int32)))) k) ?_
      show own_Go p e below _ (T0.setTop (mkF m 144 #[.val (.int p0)] []))
      refine own_st (fun _ k => XS.iloadN X0.here hx rfl (hb hby d2_144) rfl k) ?_
      show own_Go p e below _ (T0.setTop (mkF m 145 #[.val (.int p0)] [(.int p0)]))
      refine own_st (fun _ k => XS.sipush X0.here hx rfl (hb hby d2_145) k) ?_
      show own_Go p e below _ (T0.setTop (mkF m 148 #[.val (.int p0)] [(.int (8204 : Int32)), (.int p0)]))
      by_cases hc148 : p0 = (8204 : Int32)
      · refine own_st (fun _ k => XS.icmpYes X0.here hx rfl (pc0 := 148) (pc' := 186) rfl (hb hby d2_148) rfl ((own_i2 _ _ _).trans (own_yes (hc148 : p0 = (8204 : Int32)))) (by decide) (by decide) k) ?_
        show own_Go p e below _ (T0.setTop (mkF m 186 #[.val (.int p0)] []))
        exact B186 T0 X0 e0 ((show own_r_137 p0 = own_r_186 p0 from ((if_pos hc141)).trans ((if_pos hc148))).symm.trans hbk)
      · refine own_st (fun _ k => XS.icmpNo X0.here hx rfl (hb hby d2_148) rfl ((own_i2 _ _ _).trans (own_no (hc148 : ¬ (p0 = (8204 : Int32))))) k) ?_
        show own_Go p e below _ (T0.setTop (mkF m 151 #[.val (.int p0)] []))
        refine own_st (fun _ k => XS.iloadN X0.here hx rfl (hb hby d2_151) rfl k) ?_
        show own_Go p e below _ (T0.setTop (mkF m 152 #[.val (.int p0)] [(.int p0)]))
        refine own_st (fun _ k => XS.sipush X0.here hx rfl (hb hby d2_152) k) ?_
        show own_Go p e below _ (T0.setTop (mkF m 155 #[.val (.int p0)] [(.int (8205 : Int32)), (.int p0)]))
        by_cases hc155 : p0 = (8205 : Int32)
        · refine own_st (fun _ k => XS.icmpYes X0.here hx rfl (pc0 := 155) (pc' := 186) rfl (hb hby d2_155) rfl ((own_i2 _ _ _).trans (own_yes (hc155 : p0 = (8205 : Int32)))) (by decide) (by decide) k) ?_
          show own_Go p e below _ (T0.setTop (mkF m 186 #[.val (.int p0)] []))
          exact B186 T0 X0 e0 ((show own_r_137 p0 = own_r_186 p0 from ((if_pos hc141)).trans (((if_neg hc148)).trans ((if_pos hc155)))).symm.trans hbk)
        · refine own_st (fun _ k => XS.icmpNo X0.here hx rfl (hb hby d2_155) rfl ((own_i2 _ _ _).trans (own_no (hc155 : ¬ (p0 = (8205 : Int32))))) k) ?_
          show own_Go p e below _ (T0.setTop (mkF m 158 #[.val (.int p0)] []))
          refine own_st (fun _ k => XS.iloadN X0.here hx rfl (hb hby d2_158) rfl k) ?_
          show own_Go p e below _ (T0.setTop (mkF m 159 #[.val (.int p0)] [(.int p0)]))
          refine own_st (fun _ k => XS.sipush X0.here hx rfl (hb hby d2_159) k) ?_
          show own_Go p e below _ (T0.setTop (mkF m 162 #[.val (.int p0)] [(.int (8304 : Int32)), (.int p0)]))
          by_cases hc162 : p0 < (8304 : Int32)
          · refine own_st (fun _ k => XS.icmpYes X0.here hx rfl (pc0 := 162) (pc' := 172) rfl (hb hby d2_162) rfl ((own_i2 _ _ _).trans (own_yes (hc162 : p0 < (8304 : Int32)))) (by decide) (by decide) k) ?_
            show own_Go p e below _ (T0.setTop (mkF m 172 #[.val (.int p0)] []))
            exact B172 T0 X0 e0 ((show own_r_137 p0 = own_r_172 p0 from ((if_pos hc141)).trans (((if_neg hc148)).trans (((if_neg hc155)).trans ((if_pos hc162))))).symm.trans hbk)
          · refine own_st (fun _ k => XS.icmpNo X0.here hx rfl (hb hby d2_162) rfl ((own_i2 _ _ _).trans (own_no (hc162 : ¬ (p0 < (8304 : Int32))))) k) ?_
            show own_Go p e below _ (T0.setTop (mkF m 165 #[.val (.int p0)] []))
            refine own_st (fun _ k => XS.iloadN X0.here hx rfl (hb hby d2_165) rfl k) ?_
            show own_Go p e below _ (T0.setTop (mkF m 166 #[.val (.int p0)] [(.int p0)]))
            refine own_st (fun _ k => XS.sipush X0.here hx rfl (hb hby d2_166) k) ?_
            show own_Go p e below _ (T0.setTop (mkF m 169 #[.val (.int p0)] [(.int (8591 : Int32)), (.int p0)]))
            by_cases hc169 : (8591 : Int32) < p0
            · refine own_st (fun _ k => XS.icmpNo X0.here hx rfl (hb hby d2_169) rfl ((own_i2 _ _ _).trans (own_nyes (hc169 : (8591 : Int32) < p0))) k) ?_
              show own_Go p e below _ (T0.setTop (mkF m 172 #[.val (.int p0)] []))
              exact B172 T0 X0 e0 ((show own_r_137 p0 = own_r_172 p0 from ((if_pos hc141)).trans (((if_neg hc148)).trans (((if_neg hc155)).trans (((if_neg hc162)).trans ((if_pos hc169)))))).symm.trans hbk)
            · refine own_st (fun _ k => XS.icmpYes X0.here hx rfl (pc0 := 169) (pc' := 186) rfl (hb hby d2_169) rfl ((own_i2 _ _ _).trans (own_nno (hc169 : ¬ ((8591 : Int32) < p0)))) (by decide) (by decide) k) ?_
              show own_Go p e below _ (T0.setTop (mkF m 186 #[.val (.int p0)] []))
              exact B186 T0 X0 e0 ((show own_r_137 p0 = own_r_186 p0 from ((if_pos hc141)).trans (((if_neg hc148)).trans (((if_neg hc155)).trans (((if_neg hc162)).trans ((if_neg hc169)))))).symm.trans hbk)
    · refine own_st (fun _ k => XS.icmpYes X0.here hx rfl (pc0 := 141) (pc' := 192) rfl (hb hby d2_141) rfl ((own_i2 _ _ _).trans (own_nno (hc141 : ¬ (p0 < (12289 : Int32))))) (by decide) (by decide) k) ?_
      show own_Go p e below _ (T0.setTop (mkF m 192 #[.val (.int p0)] []))
      exact B192 T0 X0 e0 ((show own_r_137 p0 = own_r_192 p0 from (if_neg hc141)).symm.trans hbk)
  have B135 : ∀ (T0 : State), Stand p l e ({ frames := 0, cells := 0, slots := 0, locals := 0 } : Room) s m #[(.int p0)] below meth c T0 [] 0 0 → T0.heap = h0 → own_r_135 p0 = own_r_0 p0 → own_Go p e below (own_Post s (own_P (some (.int (own_r_0 p0))) h0) ({ frames := 0, cells := 0, slots := 0, locals := 0 } : Room).cells ({ frames := 0, cells := 0, slots := 0, locals := 0 } : Room).slots) (T0.setTop (mkF m 135 #[.val (.int p0)] [])) := by
    intro T0 X0 e0 hbk
    show own_Go p e below _ (T0.setTop (mkF m 135 #[.val (.int p0)] []))
    refine own_st (fun _ k => XS.iconst X0.here hx rfl (hb hby d2_135) k) ?_
    show own_Go p e below _ (T0.setTop (mkF m 136 #[.val (.int p0)] [(.int (0 : Int32))]))
    exact own_retZ X0 hx hlk hret rfl (hb hby d2_136) ⟨congrArg (fun z => some (Value.int z)) ((show own_r_135 p0 = (0 : Int32) from rfl).symm.trans hbk), rfl, e0⟩ (by decide) (by decide)
  have B124 : ∀ (T0 : State), Stand p l e ({ frames := 0, cells := 0, slots := 0, locals := 0 } : Room) s m #[(.int p0)] below meth c T0 [] 0 0 → T0.heap = h0 → own_r_124 p0 = own_r_0 p0 → own_Go p e below (own_Post s (own_P (some (.int (own_r_0 p0))) h0) ({ frames := 0, cells := 0, slots := 0, locals := 0 } : Room).cells ({ frames := 0, cells := 0, slots := 0, locals := 0 } : Room).slots) (T0.setTop (mkF m 124 #[.val (.int p0)] [])) := by
    intro T0 X0 e0 hbk
    show own_Go p e below _ (T0.setTop (mkF m 124 #[.val (.int p0)] []))
    refine own_st (fun _ k => XS.iloadN X0.here hx rfl (hb hby d2_124) rfl k) ?_
    show own_Go p e below _ (T0.setTop (mkF m 125 #[.val (.int p0)] [(.int p0)]))
    refine own_st (fun _ k => XS.sipush X0.here hx rfl (hb hby d2_125) k) ?_
    show own_Go p e below _ (T0.setTop (mkF m 128 #[.val (.int p0)] [(.int (894 : Int32)), (.int p0)]))
    by_cases hc128 : p0 = (894 : Int32)
    · refine own_st (fun _ k => XS.icmpYes X0.here hx rfl (pc0 := 128) (pc' := 135) rfl (hb hby d2_128) rfl ((own_i2 _ _ _).trans (own_yes (hc128 : p0 = (894 : Int32)))) (by decide) (by decide) k) ?_
      show own_Go p e below _ (T0.setTop (mkF m 135 #[.val (.int p0)] []))
      exact B135 T0 X0 e0 ((show own_r_124 p0 = own_r_135 p0 from (if_pos hc128)).symm.trans hbk)
    · refine own_st (fun _ k => XS.icmpNo X0.here hx rfl (hb hby d2_128) rfl ((own_i2 _ _ _).trans (own_no (hc128 : ¬ (p0 = (894 : Int32))))) k) ?_
      show own_Go p e below _ (T0.setTop (mkF m 131 #[.val (.int p0)] []))
      refine own_st (fun _ k => XS.iconst X0.here hx rfl (hb hby d2_131) k) ?_
      show own_Go p e below _ (T0.setTop (mkF m 132 #[.val (.int p0)] [(.int (1 : Int32))]))
      refine own_st (fun _ k => XS.goto X0.here hx rfl (pc0 := 132) (pc' := 136) rfl (hb hby d2_132) (by decide) (by decide) k) ?_
      show own_Go p e below _ (T0.setTop (mkF m 136 #[.val (.int p0)] [(.int (1 : Int32))]))
      exact own_retZ X0 hx hlk hret rfl (hb hby d2_136) ⟨congrArg (fun z => some (Value.int z)) ((show own_r_124 p0 = (1 : Int32) from (if_neg hc128)).symm.trans hbk), rfl, e0⟩ (by decide) (by decide)
  have B103 : ∀ (T0 : State), Stand p l e ({ frames := 0, cells := 0, slots := 0, locals := 0 } : Room) s m #[(.int p0)] below meth c T0 [] 0 0 → T0.heap = h0 → own_r_103 p0 = own_r_0 p0 → own_Go p e below (own_Post s (own_P (some (.int (own_r_0 p0))) h0) ({ frames := 0, cells := 0, slots := 0, locals := 0 } : Room).cells ({ frames := 0, cells := 0, slots := 0, locals := 0 } : Room).slots) (T0.setTop (mkF m 103 #[.val (.int p0)] [])) := by
    intro T0 X0 e0 hbk
    show own_Go p e below _ (T0.setTop (mkF m 103 #[.val (.int p0)] []))
    refine own_st (fun _ k => XS.iloadN X0.here hx rfl (hb hby d2_103) rfl k) ?_
    show own_Go p e below _ (T0.setTop (mkF m 104 #[.val (.int p0)] [(.int p0)]))
    refine own_st (fun _ k => XS.sipush X0.here hx rfl (hb hby d2_104) k) ?_
    show own_Go p e below _ (T0.setTop (mkF m 107 #[.val (.int p0)] [(.int (8192 : Int32)), (.int p0)]))
    by_cases hc107 : p0 < (8192 : Int32)
    · refine own_st (fun _ k => XS.icmpNo X0.here hx rfl (hb hby d2_107) rfl ((own_i2 _ _ _).trans (own_nyes (hc107 : p0 < (8192 : Int32)))) k) ?_
      show own_Go p e below _ (T0.setTop (mkF m 110 #[.val (.int p0)] []))
      refine own_st (fun _ k => XS.iloadN X0.here hx rfl (hb hby d2_110) rfl k) ?_
      show own_Go p e below _ (T0.setTop (mkF m 111 #[.val (.int p0)] [(.int p0)]))
      refine own_st (fun _ k => XS.sipush X0.here hx rfl (hb hby d2_111) k) ?_
      show own_Go p e below _ (T0.setTop (mkF m 114 #[.val (.int p0)] [(.int (768 : Int32)), (.int p0)]))
      by_cases hc114 : p0 < (768 : Int32)
      · refine own_st (fun _ k => XS.icmpYes X0.here hx rfl (pc0 := 114) (pc' := 124) rfl (hb hby d2_114) rfl ((own_i2 _ _ _).trans (own_yes (hc114 : p0 < (768 : Int32)))) (by decide) (by decide) k) ?_
        show own_Go p e below _ (T0.setTop (mkF m 124 #[.val (.int p0)] []))
        exact B124 T0 X0 e0 ((show own_r_103 p0 = own_r_124 p0 from ((if_pos hc107)).trans ((if_pos hc114))).symm.trans hbk)
      · refine own_st (fun _ k => XS.icmpNo X0.here hx rfl (hb hby d2_114) rfl ((own_i2 _ _ _).trans (own_no (hc114 : ¬ (p0 < (768 : Int32))))) k) ?_
        show own_Go p e below _ (T0.setTop (mkF m 117 #[.val (.int p0)] []))
        refine own_st (fun _ k => XS.iloadN X0.here hx rfl (hb hby d2_117) rfl k) ?_
        show own_Go p e below _ (T0.setTop (mkF m 118 #[.val (.int p0)] [(.int p0)]))
        refine own_st (fun _ k => XS.sipush X0.here hx rfl (hb hby d2_118) k) ?_
        show own_Go p e below _ (T0.setTop (mkF m 121 #[.val (.int p0)] [(.int (879 : Int32)), (.int p0)]))
        by_cases hc121 : (879 : Int32) < p0
        · refine own_st (fun _ k => XS.icmpNo X0.here hx rfl (hb hby d2_121) rfl ((own_i2 _ _ _).trans (own_nyes (hc121 : (879 : Int32) < p0))) k) ?_
          show own_Go p e below _ (T0.setTop (mkF m 124 #[.val (.int p0)] []))
          exact B124 T0 X0 e0 ((show own_r_103 p0 = own_r_124 p0 from ((if_pos hc107)).trans (((if_neg hc114)).trans ((if_pos hc121)))).symm.trans hbk)
        · refine own_st (fun _ k => XS.icmpYes X0.here hx rfl (pc0 := 121) (pc' := 135) rfl (hb hby d2_121) rfl ((own_i2 _ _ _).trans (own_nno (hc121 : ¬ ((879 : Int32) < p0)))) (by decide) (by decide) k) ?_
          show own_Go p e below _ (T0.setTop (mkF m 135 #[.val (.int p0)] []))
          exact B135 T0 X0 e0 ((show own_r_103 p0 = own_r_135 p0 from ((if_pos hc107)).trans (((if_neg hc114)).trans ((if_neg hc121)))).symm.trans hbk)
    · refine own_st (fun _ k => XS.icmpYes X0.here hx rfl (pc0 := 107) (pc' := 137) rfl (hb hby d2_107) rfl ((own_i2 _ _ _).trans (own_nno (hc107 : ¬ (p0 < (8192 : Int32))))) (by decide) (by decide) k) ?_
      show own_Go p e below _ (T0.setTop (mkF m 137 #[.val (.int p0)] []))
      exact B137 T0 X0 e0 ((show own_r_103 p0 = own_r_137 p0 from (if_neg hc107)).symm.trans hbk)
  have B101 : ∀ (T0 : State), Stand p l e ({ frames := 0, cells := 0, slots := 0, locals := 0 } : Room) s m #[(.int p0)] below meth c T0 [] 0 0 → T0.heap = h0 → own_r_101 p0 = own_r_0 p0 → own_Go p e below (own_Post s (own_P (some (.int (own_r_0 p0))) h0) ({ frames := 0, cells := 0, slots := 0, locals := 0 } : Room).cells ({ frames := 0, cells := 0, slots := 0, locals := 0 } : Room).slots) (T0.setTop (mkF m 101 #[.val (.int p0)] [])) := by
    intro T0 X0 e0 hbk
    show own_Go p e below _ (T0.setTop (mkF m 101 #[.val (.int p0)] []))
    refine own_st (fun _ k => XS.iconst X0.here hx rfl (hb hby d2_101) k) ?_
    show own_Go p e below _ (T0.setTop (mkF m 102 #[.val (.int p0)] [(.int (0 : Int32))]))
    exact own_retZ X0 hx hlk hret rfl (hb hby d2_102) ⟨congrArg (fun z => some (Value.int z)) ((show own_r_101 p0 = (0 : Int32) from rfl).symm.trans hbk), rfl, e0⟩ (by decide) (by decide)
  have B69 : ∀ (T0 : State), Stand p l e ({ frames := 0, cells := 0, slots := 0, locals := 0 } : Room) s m #[(.int p0)] below meth c T0 [] 0 0 → T0.heap = h0 → own_r_69 p0 = own_r_0 p0 → own_Go p e below (own_Post s (own_P (some (.int (own_r_0 p0))) h0) ({ frames := 0, cells := 0, slots := 0, locals := 0 } : Room).cells ({ frames := 0, cells := 0, slots := 0, locals := 0 } : Room).slots) (T0.setTop (mkF m 69 #[.val (.int p0)] [])) := by
    intro T0 X0 e0 hbk
    show own_Go p e below _ (T0.setTop (mkF m 69 #[.val (.int p0)] []))
    refine own_st (fun _ k => XS.iloadN X0.here hx rfl (hb hby d2_69) rfl k) ?_
    show own_Go p e below _ (T0.setTop (mkF m 70 #[.val (.int p0)] [(.int p0)]))
    refine own_st (fun _ k => XS.sipush X0.here hx rfl (hb hby d2_70) k) ?_
    show own_Go p e below _ (T0.setTop (mkF m 73 #[.val (.int p0)] [(.int (256 : Int32)), (.int p0)]))
    by_cases hc73 : p0 < (256 : Int32)
    · refine own_st (fun _ k => XS.icmpNo X0.here hx rfl (hb hby d2_73) rfl ((own_i2 _ _ _).trans (own_nyes (hc73 : p0 < (256 : Int32)))) k) ?_
      show own_Go p e below _ (T0.setTop (mkF m 76 #[.val (.int p0)] []))
      refine own_st (fun _ k => XS.iloadN X0.here hx rfl (hb hby d2_76) rfl k) ?_
      show own_Go p e below _ (T0.setTop (mkF m 77 #[.val (.int p0)] [(.int p0)]))
      refine own_st (fun _ k => XS.sipush X0.here hx rfl (hb hby d2_77) k) ?_
      show own_Go p e below _ (T0.setTop (mkF m 80 #[.val (.int p0)] [(.int (192 : Int32)), (.int p0)]))
      by_cases hc80 : p0 < (192 : Int32)
      · refine own_st (fun _ k => XS.icmpYes X0.here hx rfl (pc0 := 80) (pc' := 101) rfl (hb hby d2_80) rfl ((own_i2 _ _ _).trans (own_yes (hc80 : p0 < (192 : Int32)))) (by decide) (by decide) k) ?_
        show own_Go p e below _ (T0.setTop (mkF m 101 #[.val (.int p0)] []))
        exact B101 T0 X0 e0 ((show own_r_69 p0 = own_r_101 p0 from ((if_pos hc73)).trans ((if_pos hc80))).symm.trans hbk)
      · refine own_st (fun _ k => XS.icmpNo X0.here hx rfl (hb hby d2_80) rfl ((own_i2 _ _ _).trans (own_no (hc80 : ¬ (p0 < (192 : Int32))))) k) ?_
        show own_Go p e below _ (T0.setTop (mkF m 83 #[.val (.int p0)] []))
        refine own_st (fun _ k => XS.iloadN X0.here hx rfl (hb hby d2_83) rfl k) ?_
        show own_Go p e below _ (T0.setTop (mkF m 84 #[.val (.int p0)] [(.int p0)]))
        refine own_st (fun _ k => XS.sipush X0.here hx rfl (hb hby d2_84) k) ?_
        show own_Go p e below _ (T0.setTop (mkF m 87 #[.val (.int p0)] [(.int (215 : Int32)), (.int p0)]))
        by_cases hc87 : p0 = (215 : Int32)
        · refine own_st (fun _ k => XS.icmpYes X0.here hx rfl (pc0 := 87) (pc' := 101) rfl (hb hby d2_87) rfl ((own_i2 _ _ _).trans (own_yes (hc87 : p0 = (215 : Int32)))) (by decide) (by decide) k) ?_
          show own_Go p e below _ (T0.setTop (mkF m 101 #[.val (.int p0)] []))
          exact B101 T0 X0 e0 ((show own_r_69 p0 = own_r_101 p0 from ((if_pos hc73)).trans (((if_neg hc80)).trans ((if_pos hc87)))).symm.trans hbk)
        · refine own_st (fun _ k => XS.icmpNo X0.here hx rfl (hb hby d2_87) rfl ((own_i2 _ _ _).trans (own_no (hc87 : ¬ (p0 = (215 : Int32))))) k) ?_
          show own_Go p e below _ (T0.setTop (mkF m 90 #[.val (.int p0)] []))
          refine own_st (fun _ k => XS.iloadN X0.here hx rfl (hb hby d2_90) rfl k) ?_
          show own_Go p e below _ (T0.setTop (mkF m 91 #[.val (.int p0)] [(.int p0)]))
          refine own_st (fun _ k => XS.sipush X0.here hx rfl (hb hby d2_91) k) ?_
          show own_Go p e below _ (T0.setTop (mkF m 94 #[.val (.int p0)] [(.int (247 : Int32)), (.int p0)]))
          by_cases hc94 : p0 = (247 : Int32)
          · refine own_st (fun _ k => XS.icmpYes X0.here hx rfl (pc0 := 94) (pc' := 101) rfl (hb hby d2_94) rfl ((own_i2 _ _ _).trans (own_yes (hc94 : p0 = (247 : Int32)))) (by decide) (by decide) k) ?_
            show own_Go p e below _ (T0.setTop (mkF m 101 #[.val (.int p0)] []))
            exact B101 T0 X0 e0 ((show own_r_69 p0 = own_r_101 p0 from ((if_pos hc73)).trans (((if_neg hc80)).trans (((if_neg hc87)).trans ((if_pos hc94))))).symm.trans hbk)
          · refine own_st (fun _ k => XS.icmpNo X0.here hx rfl (hb hby d2_94) rfl ((own_i2 _ _ _).trans (own_no (hc94 : ¬ (p0 = (247 : Int32))))) k) ?_
            show own_Go p e below _ (T0.setTop (mkF m 97 #[.val (.int p0)] []))
            refine own_st (fun _ k => XS.iconst X0.here hx rfl (hb hby d2_97) k) ?_
            show own_Go p e below _ (T0.setTop (mkF m 98 #[.val (.int p0)] [(.int (1 : Int32))]))
            refine own_st (fun _ k => XS.goto X0.here hx rfl (pc0 := 98) (pc' := 102) rfl (hb hby d2_98) (by decide) (by decide) k) ?_
            show own_Go p e below _ (T0.setTop (mkF m 102 #[.val (.int p0)] [(.int (1 : Int32))]))
            exact own_retZ X0 hx hlk hret rfl (hb hby d2_102) ⟨congrArg (fun z => some (Value.int z)) ((show own_r_69 p0 = (1 : Int32) from ((if_pos hc73)).trans (((if_neg hc80)).trans (((if_neg hc87)).trans ((if_neg hc94))))).symm.trans hbk), rfl, e0⟩ (by decide) (by decide)
    · refine own_st (fun _ k => XS.icmpYes X0.here hx rfl (pc0 := 73) (pc' := 103) rfl (hb hby d2_73) rfl ((own_i2 _ _ _).trans (own_nno (hc73 : ¬ (p0 < (256 : Int32))))) (by decide) (by decide) k) ?_
      show own_Go p e below _ (T0.setTop (mkF m 103 #[.val (.int p0)] []))
      exact B103 T0 X0 e0 ((show own_r_69 p0 = own_r_103 p0 from (if_neg hc73)).symm.trans hbk)
  have B67 : ∀ (T0 : State), Stand p l e ({ frames := 0, cells := 0, slots := 0, locals := 0 } : Room) s m #[(.int p0)] below meth c T0 [] 0 0 → T0.heap = h0 → own_r_67 p0 = own_r_0 p0 → own_Go p e below (own_Post s (own_P (some (.int (own_r_0 p0))) h0) ({ frames := 0, cells := 0, slots := 0, locals := 0 } : Room).cells ({ frames := 0, cells := 0, slots := 0, locals := 0 } : Room).slots) (T0.setTop (mkF m 67 #[.val (.int p0)] [])) := by
    intro T0 X0 e0 hbk
    show own_Go p e below _ (T0.setTop (mkF m 67 #[.val (.int p0)] []))
    refine own_st (fun _ k => XS.iconst X0.here hx rfl (hb hby d2_67) k) ?_
    show own_Go p e below _ (T0.setTop (mkF m 68 #[.val (.int p0)] [(.int (0 : Int32))]))
    exact own_retZ X0 hx hlk hret rfl (hb hby d2_68) ⟨congrArg (fun z => some (Value.int z)) ((show own_r_67 p0 = (0 : Int32) from rfl).symm.trans hbk), rfl, e0⟩ (by decide) (by decide)
  have B63 : ∀ (T0 : State), Stand p l e ({ frames := 0, cells := 0, slots := 0, locals := 0 } : Room) s m #[(.int p0)] below meth c T0 [] 0 0 → T0.heap = h0 → own_r_63 p0 = own_r_0 p0 → own_Go p e below (own_Post s (own_P (some (.int (own_r_0 p0))) h0) ({ frames := 0, cells := 0, slots := 0, locals := 0 } : Room).cells ({ frames := 0, cells := 0, slots := 0, locals := 0 } : Room).slots) (T0.setTop (mkF m 63 #[.val (.int p0)] [])) := by
    intro T0 X0 e0 hbk
    show own_Go p e below _ (T0.setTop (mkF m 63 #[.val (.int p0)] []))
    refine own_st (fun _ k => XS.iconst X0.here hx rfl (hb hby d2_63) k) ?_
    show own_Go p e below _ (T0.setTop (mkF m 64 #[.val (.int p0)] [(.int (1 : Int32))]))
    refine own_st (fun _ k => XS.goto X0.here hx rfl (pc0 := 64) (pc' := 68) rfl (hb hby d2_64) (by decide) (by decide) k) ?_
    show own_Go p e below _ (T0.setTop (mkF m 68 #[.val (.int p0)] [(.int (1 : Int32))]))
    exact own_retZ X0 hx hlk hret rfl (hb hby d2_68) ⟨congrArg (fun z => some (Value.int z)) ((show own_r_63 p0 = (1 : Int32) from rfl).symm.trans hbk), rfl, e0⟩ (by decide) (by decide)
  have B51 : ∀ (T0 : State), Stand p l e ({ frames := 0, cells := 0, slots := 0, locals := 0 } : Room) s m #[(.int p0)] below meth c T0 [] 0 0 → T0.heap = h0 → own_r_51 p0 = own_r_0 p0 → own_Go p e below (own_Post s (own_P (some (.int (own_r_0 p0))) h0) ({ frames := 0, cells := 0, slots := 0, locals := 0 } : Room).cells ({ frames := 0, cells := 0, slots := 0, locals := 0 } : Room).slots) (T0.setTop (mkF m 51 #[.val (.int p0)] [])) := by
    intro T0 X0 e0 hbk
    show own_Go p e below _ (T0.setTop (mkF m 51 #[.val (.int p0)] []))
    refine own_st (fun _ k => XS.iloadN X0.here hx rfl (hb hby d2_51) rfl k) ?_
    show own_Go p e below _ (T0.setTop (mkF m 52 #[.val (.int p0)] [(.int p0)]))
    refine own_st (fun _ k => XS.bipush X0.here hx rfl (hb hby d2_52) k) ?_
    show own_Go p e below _ (T0.setTop (mkF m 54 #[.val (.int p0)] [(.int (97 : Int32)), (.int p0)]))
    by_cases hc54 : p0 < (97 : Int32)
    · refine own_st (fun _ k => XS.icmpYes X0.here hx rfl (pc0 := 54) (pc' := 67) rfl (hb hby d2_54) rfl ((own_i2 _ _ _).trans (own_yes (hc54 : p0 < (97 : Int32)))) (by decide) (by decide) k) ?_
      show own_Go p e below _ (T0.setTop (mkF m 67 #[.val (.int p0)] []))
      exact B67 T0 X0 e0 ((show own_r_51 p0 = own_r_67 p0 from (if_pos hc54)).symm.trans hbk)
    · refine own_st (fun _ k => XS.icmpNo X0.here hx rfl (hb hby d2_54) rfl ((own_i2 _ _ _).trans (own_no (hc54 : ¬ (p0 < (97 : Int32))))) k) ?_
      show own_Go p e below _ (T0.setTop (mkF m 57 #[.val (.int p0)] []))
      refine own_st (fun _ k => XS.iloadN X0.here hx rfl (hb hby d2_57) rfl k) ?_
      show own_Go p e below _ (T0.setTop (mkF m 58 #[.val (.int p0)] [(.int p0)]))
      refine own_st (fun _ k => XS.bipush X0.here hx rfl (hb hby d2_58) k) ?_
      show own_Go p e below _ (T0.setTop (mkF m 60 #[.val (.int p0)] [(.int (122 : Int32)), (.int p0)]))
      by_cases hc60 : (122 : Int32) < p0
      · refine own_st (fun _ k => XS.icmpYes X0.here hx rfl (pc0 := 60) (pc' := 67) rfl (hb hby d2_60) rfl ((own_i2 _ _ _).trans (own_yes (hc60 : (122 : Int32) < p0))) (by decide) (by decide) k) ?_
        show own_Go p e below _ (T0.setTop (mkF m 67 #[.val (.int p0)] []))
        exact B67 T0 X0 e0 ((show own_r_51 p0 = own_r_67 p0 from ((if_neg hc54)).trans ((if_pos hc60))).symm.trans hbk)
      · refine own_st (fun _ k => XS.icmpNo X0.here hx rfl (hb hby d2_60) rfl ((own_i2 _ _ _).trans (own_no (hc60 : ¬ ((122 : Int32) < p0)))) k) ?_
        show own_Go p e below _ (T0.setTop (mkF m 63 #[.val (.int p0)] []))
        exact B63 T0 X0 e0 ((show own_r_51 p0 = own_r_63 p0 from ((if_neg hc54)).trans ((if_neg hc60))).symm.trans hbk)
  have B20 : ∀ (T0 : State), Stand p l e ({ frames := 0, cells := 0, slots := 0, locals := 0 } : Room) s m #[(.int p0)] below meth c T0 [] 0 0 → T0.heap = h0 → own_r_20 p0 = own_r_0 p0 → own_Go p e below (own_Post s (own_P (some (.int (own_r_0 p0))) h0) ({ frames := 0, cells := 0, slots := 0, locals := 0 } : Room).cells ({ frames := 0, cells := 0, slots := 0, locals := 0 } : Room).slots) (T0.setTop (mkF m 20 #[.val (.int p0)] [])) := by
    intro T0 X0 e0 hbk
    show own_Go p e below _ (T0.setTop (mkF m 20 #[.val (.int p0)] []))
    refine own_st (fun _ k => XS.iloadN X0.here hx rfl (hb hby d2_20) rfl k) ?_
    show own_Go p e below _ (T0.setTop (mkF m 21 #[.val (.int p0)] [(.int p0)]))
    refine own_st (fun _ k => XS.sipush X0.here hx rfl (hb hby d2_21) k) ?_
    show own_Go p e below _ (T0.setTop (mkF m 24 #[.val (.int p0)] [(.int (128 : Int32)), (.int p0)]))
    by_cases hc24 : p0 < (128 : Int32)
    · refine own_st (fun _ k => XS.icmpNo X0.here hx rfl (hb hby d2_24) rfl ((own_i2 _ _ _).trans (own_nyes (hc24 : p0 < (128 : Int32)))) k) ?_
      show own_Go p e below _ (T0.setTop (mkF m 27 #[.val (.int p0)] []))
      refine own_st (fun _ k => XS.iloadN X0.here hx rfl (hb hby d2_27) rfl k) ?_
      show own_Go p e below _ (T0.setTop (mkF m 28 #[.val (.int p0)] [(.int p0)]))
      refine own_st (fun _ k => XS.bipush X0.here hx rfl (hb hby d2_28) k) ?_
      show own_Go p e below _ (T0.setTop (mkF m 30 #[.val (.int p0)] [(.int (58 : Int32)), (.int p0)]))
      by_cases hc30 : p0 = (58 : Int32)
      · refine own_st (fun _ k => XS.icmpYes X0.here hx rfl (pc0 := 30) (pc' := 63) rfl (hb hby d2_30) rfl ((own_i2 _ _ _).trans (own_yes (hc30 : p0 = (58 : Int32)))) (by decide) (by decide) k) ?_
        show own_Go p e below _ (T0.setTop (mkF m 63 #[.val (.int p0)] []))
        exact B63 T0 X0 e0 ((show own_r_20 p0 = own_r_63 p0 from ((if_pos hc24)).trans ((if_pos hc30))).symm.trans hbk)
      · refine own_st (fun _ k => XS.icmpNo X0.here hx rfl (hb hby d2_30) rfl ((own_i2 _ _ _).trans (own_no (hc30 : ¬ (p0 = (58 : Int32))))) k) ?_
        show own_Go p e below _ (T0.setTop (mkF m 33 #[.val (.int p0)] []))
        refine own_st (fun _ k => XS.iloadN X0.here hx rfl (hb hby d2_33) rfl k) ?_
        show own_Go p e below _ (T0.setTop (mkF m 34 #[.val (.int p0)] [(.int p0)]))
        refine own_st (fun _ k => XS.bipush X0.here hx rfl (hb hby d2_34) k) ?_
        show own_Go p e below _ (T0.setTop (mkF m 36 #[.val (.int p0)] [(.int (95 : Int32)), (.int p0)]))
        by_cases hc36 : p0 = (95 : Int32)
        · refine own_st (fun _ k => XS.icmpYes X0.here hx rfl (pc0 := 36) (pc' := 63) rfl (hb hby d2_36) rfl ((own_i2 _ _ _).trans (own_yes (hc36 : p0 = (95 : Int32)))) (by decide) (by decide) k) ?_
          show own_Go p e below _ (T0.setTop (mkF m 63 #[.val (.int p0)] []))
          exact B63 T0 X0 e0 ((show own_r_20 p0 = own_r_63 p0 from ((if_pos hc24)).trans (((if_neg hc30)).trans ((if_pos hc36)))).symm.trans hbk)
        · refine own_st (fun _ k => XS.icmpNo X0.here hx rfl (hb hby d2_36) rfl ((own_i2 _ _ _).trans (own_no (hc36 : ¬ (p0 = (95 : Int32))))) k) ?_
          show own_Go p e below _ (T0.setTop (mkF m 39 #[.val (.int p0)] []))
          refine own_st (fun _ k => XS.iloadN X0.here hx rfl (hb hby d2_39) rfl k) ?_
          show own_Go p e below _ (T0.setTop (mkF m 40 #[.val (.int p0)] [(.int p0)]))
          refine own_st (fun _ k => XS.bipush X0.here hx rfl (hb hby d2_40) k) ?_
          show own_Go p e below _ (T0.setTop (mkF m 42 #[.val (.int p0)] [(.int (65 : Int32)), (.int p0)]))
          by_cases hc42 : p0 < (65 : Int32)
          · refine own_st (fun _ k => XS.icmpYes X0.here hx rfl (pc0 := 42) (pc' := 51) rfl (hb hby d2_42) rfl ((own_i2 _ _ _).trans (own_yes (hc42 : p0 < (65 : Int32)))) (by decide) (by decide) k) ?_
            show own_Go p e below _ (T0.setTop (mkF m 51 #[.val (.int p0)] []))
            exact B51 T0 X0 e0 ((show own_r_20 p0 = own_r_51 p0 from ((if_pos hc24)).trans (((if_neg hc30)).trans (((if_neg hc36)).trans ((if_pos hc42))))).symm.trans hbk)
          · refine own_st (fun _ k => XS.icmpNo X0.here hx rfl (hb hby d2_42) rfl ((own_i2 _ _ _).trans (own_no (hc42 : ¬ (p0 < (65 : Int32))))) k) ?_
            show own_Go p e below _ (T0.setTop (mkF m 45 #[.val (.int p0)] []))
            refine own_st (fun _ k => XS.iloadN X0.here hx rfl (hb hby d2_45) rfl k) ?_
            show own_Go p e below _ (T0.setTop (mkF m 46 #[.val (.int p0)] [(.int p0)]))
            refine own_st (fun _ k => XS.bipush X0.here hx rfl (hb hby d2_46) k) ?_
            show own_Go p e below _ (T0.setTop (mkF m 48 #[.val (.int p0)] [(.int (90 : Int32)), (.int p0)]))
            by_cases hc48 : (90 : Int32) < p0
            · refine own_st (fun _ k => XS.icmpNo X0.here hx rfl (hb hby d2_48) rfl ((own_i2 _ _ _).trans (own_nyes (hc48 : (90 : Int32) < p0))) k) ?_
              show own_Go p e below _ (T0.setTop (mkF m 51 #[.val (.int p0)] []))
              exact B51 T0 X0 e0 ((show own_r_20 p0 = own_r_51 p0 from ((if_pos hc24)).trans (((if_neg hc30)).trans (((if_neg hc36)).trans (((if_neg hc42)).trans ((if_pos hc48)))))).symm.trans hbk)
            · refine own_st (fun _ k => XS.icmpYes X0.here hx rfl (pc0 := 48) (pc' := 63) rfl (hb hby d2_48) rfl ((own_i2 _ _ _).trans (own_nno (hc48 : ¬ ((90 : Int32) < p0)))) (by decide) (by decide) k) ?_
              show own_Go p e below _ (T0.setTop (mkF m 63 #[.val (.int p0)] []))
              exact B63 T0 X0 e0 ((show own_r_20 p0 = own_r_63 p0 from ((if_pos hc24)).trans (((if_neg hc30)).trans (((if_neg hc36)).trans (((if_neg hc42)).trans ((if_neg hc48)))))).symm.trans hbk)
    · refine own_st (fun _ k => XS.icmpYes X0.here hx rfl (pc0 := 24) (pc' := 69) rfl (hb hby d2_24) rfl ((own_i2 _ _ _).trans (own_nno (hc24 : ¬ (p0 < (128 : Int32))))) (by decide) (by decide) k) ?_
      show own_Go p e below _ (T0.setTop (mkF m 69 #[.val (.int p0)] []))
      exact B69 T0 X0 e0 ((show own_r_20 p0 = own_r_69 p0 from (if_neg hc24)).symm.trans hbk)
  have B12 : ∀ (T0 : State), Stand p l e ({ frames := 0, cells := 0, slots := 0, locals := 0 } : Room) s m #[(.int p0)] below meth c T0 [] 0 0 → T0.heap = h0 → own_r_12 p0 = own_r_0 p0 → own_Go p e below (own_Post s (own_P (some (.int (own_r_0 p0))) h0) ({ frames := 0, cells := 0, slots := 0, locals := 0 } : Room).cells ({ frames := 0, cells := 0, slots := 0, locals := 0 } : Room).slots) (T0.setTop (mkF m 12 #[.val (.int p0)] [])) := by
    intro T0 X0 e0 hbk
    show own_Go p e below _ (T0.setTop (mkF m 12 #[.val (.int p0)] []))
    refine own_st (fun _ k => XS.iloadN X0.here hx rfl (hb hby d2_12) rfl k) ?_
    show own_Go p e below _ (T0.setTop (mkF m 13 #[.val (.int p0)] [(.int p0)]))
    refine own_st (fun _ k => X0.ldcInt hx hown (mvT hZ (hw _ (List.mem_of_getElem? (i := 6) rfl))) (g := (mkF m 13 #[.val (.int p0)] [(.int p0)])) rfl (hb hby d2_13) _ k) ?_
    show own_Go p e below _ (T0.setTop (mkF m 15 #[.val (.int p0)] [(.int (65536 : Int32)), (.int p0)]))
    by_cases hc15 : p0 < (65536 : Int32)
    · refine own_st (fun _ k => XS.icmpYes X0.here hx rfl (pc0 := 15) (pc' := 20) rfl (hb hby d2_15) rfl ((own_i2 _ _ _).trans (own_yes (hc15 : p0 < (65536 : Int32)))) (by decide) (by decide) k) ?_
      show own_Go p e below _ (T0.setTop (mkF m 20 #[.val (.int p0)] []))
      exact B20 T0 X0 e0 ((show own_r_12 p0 = own_r_20 p0 from (if_pos hc15)).symm.trans hbk)
    · refine own_st (fun _ k => XS.icmpNo X0.here hx rfl (hb hby d2_15) rfl ((own_i2 _ _ _).trans (own_no (hc15 : ¬ (p0 < (65536 : Int32))))) k) ?_
      show own_Go p e below _ (T0.setTop (mkF m 18 #[.val (.int p0)] []))
      refine own_st (fun _ k => XS.iconst X0.here hx rfl (hb hby d2_18) k) ?_
      show own_Go p e below _ (T0.setTop (mkF m 19 #[.val (.int p0)] [(.int (1 : Int32))]))
      exact own_retZ X0 hx hlk hret rfl (hb hby d2_19) ⟨congrArg (fun z => some (Value.int z)) ((show own_r_12 p0 = (1 : Int32) from (if_neg hc15)).symm.trans hbk), rfl, e0⟩ (by decide) (by decide)
  have B10 : ∀ (T0 : State), Stand p l e ({ frames := 0, cells := 0, slots := 0, locals := 0 } : Room) s m #[(.int p0)] below meth c T0 [] 0 0 → T0.heap = h0 → own_r_10 p0 = own_r_0 p0 → own_Go p e below (own_Post s (own_P (some (.int (own_r_0 p0))) h0) ({ frames := 0, cells := 0, slots := 0, locals := 0 } : Room).cells ({ frames := 0, cells := 0, slots := 0, locals := 0 } : Room).slots) (T0.setTop (mkF m 10 #[.val (.int p0)] [])) := by
    intro T0 X0 e0 hbk
    show own_Go p e below _ (T0.setTop (mkF m 10 #[.val (.int p0)] []))
    refine own_st (fun _ k => XS.iconst X0.here hx rfl (hb hby d2_10) k) ?_
    show own_Go p e below _ (T0.setTop (mkF m 11 #[.val (.int p0)] [(.int (0 : Int32))]))
    exact own_retZ X0 hx hlk hret rfl (hb hby d2_11) ⟨congrArg (fun z => some (Value.int z)) ((show own_r_10 p0 = (0 : Int32) from rfl).symm.trans hbk), rfl, e0⟩ (by decide) (by decide)
  have B0 : ∀ (T0 : State), Stand p l e ({ frames := 0, cells := 0, slots := 0, locals := 0 } : Room) s m #[(.int p0)] below meth c T0 [] 0 0 → T0.heap = h0 → own_r_0 p0 = own_r_0 p0 → own_Go p e below (own_Post s (own_P (some (.int (own_r_0 p0))) h0) ({ frames := 0, cells := 0, slots := 0, locals := 0 } : Room).cells ({ frames := 0, cells := 0, slots := 0, locals := 0 } : Room).slots) (T0.setTop (mkF m 0 #[.val (.int p0)] [])) := by
    intro T0 X0 e0 hbk
    show own_Go p e below _ (T0.setTop (mkF m 0 #[.val (.int p0)] []))
    refine own_st (fun _ k => XS.iloadN X0.here hx rfl (hb hby d2_0) rfl k) ?_
    show own_Go p e below _ (T0.setTop (mkF m 1 #[.val (.int p0)] [(.int p0)]))
    by_cases hc1 : p0 < (0 : Int32)
    · refine own_st (fun _ k => XS.ifYes X0.here hx rfl (pc0 := 1) (pc' := 10) rfl (hb hby d2_1) rfl ((own_i0 _ _).trans (own_yes (hc1 : p0 < (0 : Int32)))) (by decide) (by decide) k) ?_
      show own_Go p e below _ (T0.setTop (mkF m 10 #[.val (.int p0)] []))
      exact B10 T0 X0 e0 ((show own_r_0 p0 = own_r_10 p0 from (if_pos hc1)).symm.trans hbk)
    · refine own_st (fun _ k => XS.ifNo X0.here hx rfl (hb hby d2_1) rfl ((own_i0 _ _).trans (own_no (hc1 : ¬ (p0 < (0 : Int32))))) k) ?_
      show own_Go p e below _ (T0.setTop (mkF m 4 #[.val (.int p0)] []))
      refine own_st (fun _ k => XS.iloadN X0.here hx rfl (hb hby d2_4) rfl k) ?_
      show own_Go p e below _ (T0.setTop (mkF m 5 #[.val (.int p0)] [(.int p0)]))
      refine own_st (fun _ k => X0.ldcInt hx hown (mvT hZ (hw _ (List.mem_of_getElem? (i := 7) rfl))) (g := (mkF m 5 #[.val (.int p0)] [(.int p0)])) rfl (hb hby d2_5) _ k) ?_
      show own_Go p e below _ (T0.setTop (mkF m 7 #[.val (.int p0)] [(.int (983039 : Int32)), (.int p0)]))
      by_cases hc7 : (983039 : Int32) < p0
      · refine own_st (fun _ k => XS.icmpNo X0.here hx rfl (hb hby d2_7) rfl ((own_i2 _ _ _).trans (own_nyes (hc7 : (983039 : Int32) < p0))) k) ?_
        show own_Go p e below _ (T0.setTop (mkF m 10 #[.val (.int p0)] []))
        exact B10 T0 X0 e0 ((show own_r_0 p0 = own_r_10 p0 from ((if_neg hc1)).trans ((if_pos hc7))).symm.trans hbk)
      · refine own_st (fun _ k => XS.icmpYes X0.here hx rfl (pc0 := 7) (pc' := 12) rfl (hb hby d2_7) rfl ((own_i2 _ _ _).trans (own_nno (hc7 : ¬ ((983039 : Int32) < p0)))) (by decide) (by decide) k) ?_
        show own_Go p e below _ (T0.setTop (mkF m 12 #[.val (.int p0)] []))
        exact B12 T0 X0 e0 ((show own_r_0 p0 = own_r_12 p0 from ((if_neg hc1)).trans ((if_neg hc7))).symm.trans hbk)
  rw [ef_2]
  exact B0 _ X0 e0 rfl
def own_Ks : List Int32 := [0, 1, 58, 65, 90, 95, 97, 122, 128, 192, 214, 215, 216, 246, 247, 248, 256, 767, 768, 879, 880, 893, 894, 895, 8191, 8192, 8204, 8205, 8304, 8591, 11264, 12271, 12289, 55295, 55296, 63744, 64975, 64976, 65007, 65008, 65533, 65536, 983039]
def own_pts : List Int32 := [-2147483648, 0, 1, 2, 58, 59, 65, 66, 90, 91, 95, 96, 97, 98, 122, 123, 128, 129, 192, 193, 214, 215, 216, 217, 246, 247, 248, 249, 256, 257, 767, 768, 769, 879, 880, 881, 893, 894, 895, 896, 8191, 8192, 8193, 8204, 8205, 8206, 8304, 8305, 8591, 8592, 11264, 11265, 12271, 12272, 12289, 12290, 55295, 55296, 55297, 63744, 63745, 64975, 64976, 64977, 65007, 65008, 65009, 65533, 65534, 65536, 65537, 983039, 983040]
def own_E (x y : Int32) : Prop := ∀ k ∈ own_Ks, (x < k ↔ y < k) ∧ (k < x ↔ k < y) ∧ (x = k ↔ y = k)
theorem own_ite {P Q : Prop} [Decidable P] [Decidable Q] {a b a' b' : Int32} (h : P ↔ Q) (h1 : a = a') (h2 : b = b') : (if P then a else b) = (if Q then a' else b') := by
  subst h1 h2
  by_cases q : P
  · rw [if_pos q, if_pos (h.mp q)]
  · rw [if_neg q, if_neg fun r => q (h.mpr r)]
/-- the greatest of a list's members that isn't above x -/
theorem own_top (x : Int32) : ∀ L : List Int32, (∃ q ∈ L, q ≤ x) → ∃ r ∈ L, r ≤ x ∧ ∀ q ∈ L, q ≤ x → q ≤ r
  | [], h => by obtain ⟨q, h1, -⟩ := h; cases h1
  | a :: L, h => by
    by_cases hL : ∃ q ∈ L, q ≤ x
    · obtain ⟨r, h1, h2, h3⟩ := own_top x L hL
      by_cases ha : a ≤ x ∧ r ≤ a
      · refine ⟨a, List.mem_cons_self .., ha.1, fun q hq hx => ?_⟩
        rcases List.mem_cons.mp hq with rfl | hq
        · exact Int32.le_refl _
        · exact Int32.le_trans (h3 q hq hx) ha.2
      · refine ⟨r, List.mem_cons_of_mem _ h1, h2, fun q hq hx => ?_⟩
        rcases List.mem_cons.mp hq with rfl | hq
        · rcases Int32.le_total q r with z | z
          · exact z
          · exact absurd ⟨hx, z⟩ ha
        · exact h3 q hq hx
    · obtain ⟨q, h1, h2⟩ := h
      rcases List.mem_cons.mp h1 with rfl | h1
      · refine ⟨q, List.mem_cons_self .., h2, fun r hr hx => ?_⟩
        rcases List.mem_cons.mp hr with rfl | hr
        · exact Int32.le_refl _
        · exact absurd ⟨r, hr, hx⟩ hL
      · exact absurd ⟨q, h1, h2⟩ hL
theorem own_kpts : ∀ k ∈ own_Ks, k ∈ own_pts ∧ (k + 1) ∈ own_pts ∧ (k + 1).toInt = k.toInt + 1 := by decide +kernel
theorem own_rep (x : Int32) : ∃ r ∈ own_pts, own_E x r := by
  obtain ⟨r, h1, h2, h3⟩ := own_top x own_pts ⟨-2147483648, by decide +kernel, by rw [Int32.le_iff_toInt_le]; exact x.le_toInt⟩
  refine ⟨r, h1, fun k hk => ?_⟩
  obtain ⟨k1, k2, k3⟩ := own_kpts k hk
  have q1 := h3 k k1
  have q2 := h3 (k + 1) k2
  simp only [Int32.le_iff_toInt_le, Int32.lt_iff_toInt_lt, ← Int32.toInt_inj] at *
  omega

theorem own_a_c201 {x y : Int32} (h : own_E x y) : own_a_201 x = own_a_201 y := rfl
theorem own_a_c197 {x y : Int32} (h : own_E x y) : own_a_197 x = own_a_197 y := rfl
theorem own_a_c185 {x y : Int32} (h : own_E x y) : own_a_185 x = own_a_185 y := (own_ite (h (65536 : Int32) (by decide)).1 (own_a_c201 h) (own_ite (h (983039 : Int32) (by decide)).2.1 (own_a_c201 h) (own_a_c197 h)))
theorem own_a_c173 {x y : Int32} (h : own_E x y) : own_a_173 x = own_a_173 y := (own_ite (h (65008 : Int32) (by decide)).1 (own_a_c185 h) (own_ite (h (65533 : Int32) (by decide)).2.1 (own_a_c185 h) (own_a_c197 h)))
theorem own_a_c161 {x y : Int32} (h : own_E x y) : own_a_161 x = own_a_161 y := (own_ite (h (63744 : Int32) (by decide)).1 (own_a_c173 h) (own_ite (h (64975 : Int32) (by decide)).2.1 (own_a_c173 h) (own_a_c197 h)))
theorem own_a_c148 {x y : Int32} (h : own_E x y) : own_a_148 x = own_a_148 y := (own_ite (h (12289 : Int32) (by decide)).1 (own_a_c161 h) (own_ite (h (55295 : Int32) (by decide)).2.1 (own_a_c161 h) (own_a_c197 h)))
theorem own_a_c134 {x y : Int32} (h : own_E x y) : own_a_134 x = own_a_134 y := (own_ite (h (11264 : Int32) (by decide)).1 (own_a_c148 h) (own_ite (h (12271 : Int32) (by decide)).2.1 (own_a_c148 h) (own_a_c197 h)))
theorem own_a_c120 {x y : Int32} (h : own_E x y) : own_a_120 x = own_a_120 y := (own_ite (h (8304 : Int32) (by decide)).1 (own_a_c134 h) (own_ite (h (8591 : Int32) (by decide)).2.1 (own_a_c134 h) (own_a_c197 h)))
theorem own_a_c106 {x y : Int32} (h : own_E x y) : own_a_106 x = own_a_106 y := (own_ite (h (8204 : Int32) (by decide)).1 (own_a_c120 h) (own_ite (h (8205 : Int32) (by decide)).2.1 (own_a_c120 h) (own_a_c197 h)))
theorem own_a_c92 {x y : Int32} (h : own_E x y) : own_a_92 x = own_a_92 y := (own_ite (h (895 : Int32) (by decide)).1 (own_a_c106 h) (own_ite (h (8191 : Int32) (by decide)).2.1 (own_a_c106 h) (own_a_c197 h)))
theorem own_a_c78 {x y : Int32} (h : own_E x y) : own_a_78 x = own_a_78 y := (own_ite (h (880 : Int32) (by decide)).1 (own_a_c92 h) (own_ite (h (893 : Int32) (by decide)).2.1 (own_a_c92 h) (own_a_c197 h)))
theorem own_a_c64 {x y : Int32} (h : own_E x y) : own_a_64 x = own_a_64 y := (own_ite (h (248 : Int32) (by decide)).1 (own_a_c78 h) (own_ite (h (767 : Int32) (by decide)).2.1 (own_a_c78 h) (own_a_c197 h)))
theorem own_a_c50 {x y : Int32} (h : own_E x y) : own_a_50 x = own_a_50 y := (own_ite (h (216 : Int32) (by decide)).1 (own_a_c64 h) (own_ite (h (246 : Int32) (by decide)).2.1 (own_a_c64 h) (own_a_c197 h)))
theorem own_a_c36 {x y : Int32} (h : own_E x y) : own_a_36 x = own_a_36 y := (own_ite (h (192 : Int32) (by decide)).1 (own_a_c50 h) (own_ite (h (214 : Int32) (by decide)).2.1 (own_a_c50 h) (own_a_c197 h)))
theorem own_a_c24 {x y : Int32} (h : own_E x y) : own_a_24 x = own_a_24 y := (own_ite (h (97 : Int32) (by decide)).1 (own_a_c36 h) (own_ite (h (122 : Int32) (by decide)).2.1 (own_a_c36 h) (own_a_c197 h)))
theorem own_a_c0 {x y : Int32} (h : own_E x y) : own_a_0 x = own_a_0 y := (own_ite (h (58 : Int32) (by decide)).2.2 (own_a_c197 h) (own_ite (h (95 : Int32) (by decide)).2.2 (own_a_c197 h) (own_ite (h (65 : Int32) (by decide)).1 (own_a_c24 h) (own_ite (h (90 : Int32) (by decide)).2.1 (own_a_c24 h) (own_a_c197 h)))))
theorem own_r_c230 {x y : Int32} (h : own_E x y) : own_r_230 x = own_r_230 y := rfl
theorem own_r_c220 {x y : Int32} (h : own_E x y) : own_r_220 x = own_r_220 y := (own_ite (h (65533 : Int32) (by decide)).2.1 (own_r_c230 h) rfl)
theorem own_r_c208 {x y : Int32} (h : own_E x y) : own_r_208 x = own_r_208 y := (own_ite (h (64976 : Int32) (by decide)).1 (own_r_c220 h) (own_ite (h (65007 : Int32) (by decide)).2.1 (own_r_c220 h) (own_r_c230 h)))
theorem own_r_c200 {x y : Int32} (h : own_E x y) : own_r_200 x = own_r_200 y := (own_ite (h (63744 : Int32) (by decide)).1 rfl (own_r_c208 h))
theorem own_r_c192 {x y : Int32} (h : own_E x y) : own_r_192 x = own_r_192 y := (own_ite (h (55296 : Int32) (by decide)).1 rfl (own_r_c200 h))
theorem own_r_c190 {x y : Int32} (h : own_E x y) : own_r_190 x = own_r_190 y := rfl
theorem own_r_c186 {x y : Int32} (h : own_E x y) : own_r_186 x = own_r_186 y := rfl
theorem own_r_c172 {x y : Int32} (h : own_E x y) : own_r_172 x = own_r_172 y := (own_ite (h (11264 : Int32) (by decide)).1 (own_r_c190 h) (own_ite (h (12271 : Int32) (by decide)).2.1 (own_r_c190 h) (own_r_c186 h)))
theorem own_r_c137 {x y : Int32} (h : own_E x y) : own_r_137 x = own_r_137 y := (own_ite (h (12289 : Int32) (by decide)).1 (own_ite (h (8204 : Int32) (by decide)).2.2 (own_r_c186 h) (own_ite (h (8205 : Int32) (by decide)).2.2 (own_r_c186 h) (own_ite (h (8304 : Int32) (by decide)).1 (own_r_c172 h) (own_ite (h (8591 : Int32) (by decide)).2.1 (own_r_c172 h) (own_r_c186 h))))) (own_r_c192 h))
theorem own_r_c135 {x y : Int32} (h : own_E x y) : own_r_135 x = own_r_135 y := rfl
theorem own_r_c124 {x y : Int32} (h : own_E x y) : own_r_124 x = own_r_124 y := (own_ite (h (894 : Int32) (by decide)).2.2 (own_r_c135 h) rfl)
theorem own_r_c103 {x y : Int32} (h : own_E x y) : own_r_103 x = own_r_103 y := (own_ite (h (8192 : Int32) (by decide)).1 (own_ite (h (768 : Int32) (by decide)).1 (own_r_c124 h) (own_ite (h (879 : Int32) (by decide)).2.1 (own_r_c124 h) (own_r_c135 h))) (own_r_c137 h))
theorem own_r_c101 {x y : Int32} (h : own_E x y) : own_r_101 x = own_r_101 y := rfl
theorem own_r_c69 {x y : Int32} (h : own_E x y) : own_r_69 x = own_r_69 y := (own_ite (h (256 : Int32) (by decide)).1 (own_ite (h (192 : Int32) (by decide)).1 (own_r_c101 h) (own_ite (h (215 : Int32) (by decide)).2.2 (own_r_c101 h) (own_ite (h (247 : Int32) (by decide)).2.2 (own_r_c101 h) rfl))) (own_r_c103 h))
theorem own_r_c67 {x y : Int32} (h : own_E x y) : own_r_67 x = own_r_67 y := rfl
theorem own_r_c63 {x y : Int32} (h : own_E x y) : own_r_63 x = own_r_63 y := rfl
theorem own_r_c51 {x y : Int32} (h : own_E x y) : own_r_51 x = own_r_51 y := (own_ite (h (97 : Int32) (by decide)).1 (own_r_c67 h) (own_ite (h (122 : Int32) (by decide)).2.1 (own_r_c67 h) (own_r_c63 h)))
theorem own_r_c20 {x y : Int32} (h : own_E x y) : own_r_20 x = own_r_20 y := (own_ite (h (128 : Int32) (by decide)).1 (own_ite (h (58 : Int32) (by decide)).2.2 (own_r_c63 h) (own_ite (h (95 : Int32) (by decide)).2.2 (own_r_c63 h) (own_ite (h (65 : Int32) (by decide)).1 (own_r_c51 h) (own_ite (h (90 : Int32) (by decide)).2.1 (own_r_c51 h) (own_r_c63 h))))) (own_r_c69 h))
theorem own_r_c12 {x y : Int32} (h : own_E x y) : own_r_12 x = own_r_12 y := (own_ite (h (65536 : Int32) (by decide)).1 (own_r_c20 h) rfl)
theorem own_r_c10 {x y : Int32} (h : own_E x y) : own_r_10 x = own_r_10 y := rfl
theorem own_r_c0 {x y : Int32} (h : own_E x y) : own_r_0 x = own_r_0 y := (own_ite (h (0 : Int32) (by decide)).1 (own_r_c10 h) (own_ite (h (983039 : Int32) (by decide)).2.1 (own_r_c10 h) (own_r_c12 h)))
theorem own_chk : ∀ q ∈ own_pts, own_a_0 q = own_r_0 q := by decide +kernel
theorem own_law (x : Int32) : own_a_0 x = own_r_0 x := by
  obtain ⟨r, h1, h2⟩ := own_rep x
  rw [own_a_c0 h2, own_r_c0 h2]
  exact own_chk r h1
theorem own_ix (x : Int32) : ¬ (x &&& (31 : Int32)) < 0 ∧ (x &&& (31 : Int32)) < (32 : Int32) := by
  have e1 := c_mask x (31 : Int32) 5 (by decide) (by decide)
  simp only [Int32.lt_iff_toInt_lt]
  have e3 : (0 : Int32).toInt = 0 := rfl
  have e4 : (32 : Int32).toInt = 32 := rfl
  rw [e1, e3, e4]
  omega
theorem pn_0 : plainFor (⟨"com/example/early_sieve/earlysieve/io/XmlCharactersIsNameStartPinLaw", "law", "(III)Z"⟩ : MethodName) = true := plainFor_of_name (by first | (simp [plainName, overriddenIn]; done) | decide +kernel)
theorem ef_0 (m : MethodId) (x0 : Int32) (x1 : Int32) (x2 : Int32) : entryFrame m #[(.int x0), (.int x1), (.int x2)] maxLocals = mkF m 0 #[.val (.int x0), .val (.int x1), .val (.int x2), .unset, .unset, .unset, .unset] [] := by first | (simp [entryFrame, mkF, argsToLocals, Value.category, maxLocals]; done) | rfl
set_option maxRecDepth 65536 in
set_option maxHeartbeats 40000000 in
theorem rm0 (l : Launch) (Z : State) (tA : Array Value) (hw : ∀ d ∈ tables_1, d.before tA Z = true) (p0 : Int32) (p1 : Int32) (p2 : Int32) (h0 : Heap) (n0 : Nat) (Z0 : n0 ≤ h0.size) :
    MetFree l x (head1 (Jvm.Cond.code x code maxLocals ret :: tables_1) room_1) (fun a U => a = #[(.int p0), (.int p1), (.int p2)] ∧ Z.Warmed39 U.vm ∧ U.heap = h0) (fun _ _ _ _ _ => True) (fun _ U o U' => own_Post U (fun v _ L => v = some (.int (1 : Int32)) ∧ Fr n0 L) 16 128 o U') := by
  refine own_body pn_0 ?_
  intro p e s m below meth c s₁ X0 hx hZ hby hml hown hret hlk hnm e0
  have N0 := Fr.nil n0
  rw [ef_0]
  show own_Go p e below _ (s₁.setTop (mkF m 0 #[.val (.int p0), .val (.int p1), .val (.int p2), .unset, .unset, .unset, .unset] []))
  refine own_st (fun _ k => XS.bipush X0.here hx rfl (hb hby at_0) k) ?_
  show own_Go p e below _ (s₁.setTop (mkF m 2 #[.val (.int p0), .val (.int p1), .val (.int p2), .unset, .unset, .unset, .unset] [(.int (32 : Int32))]))
  obtain ⟨T1, h1, k1, X1, e1, E1, A1, st1⟩ := newP X0 hx hZ (hw _ (List.mem_of_getElem? (i := 0) rfl)) e0 (g := (mkF m 2 #[.val (.int p0), .val (.int p1), .val (.int p2), .unset, .unset, .unset, .unset] [(.int (32 : Int32))])) rfl (hb hby at_2) rfl (by decide) (cap := 32) (by decide) (by decide) (by decide) (by decide)
  refine own_st st1 ?_
  obtain ⟨b1, g1⟩ : ∃ z, z = h0.size := ⟨_, rfl⟩
  rw [← g1] at A1 ⊢
  have g_b1 : n0 ≤ b1 := Nat.le_trans Z0 (Nat.le_of_eq g1.symm)
  replace Z0 := Nat.le_trans Z0 E1.1
  have V_b1 : Arv Z h1 b1 k1 .int (32 : Int32) [(.int (0 : Int32)), (.int (0 : Int32)), (.int (0 : Int32)), (.int (0 : Int32)), (.int (0 : Int32)), (.int (0 : Int32)), (.int (0 : Int32)), (.int (0 : Int32)), (.int (0 : Int32)), (.int (0 : Int32)), (.int (0 : Int32)), (.int (0 : Int32)), (.int (0 : Int32)), (.int (0 : Int32)), (.int (0 : Int32)), (.int (0 : Int32)), (.int (0 : Int32)), (.int (0 : Int32)), (.int (0 : Int32)), (.int (0 : Int32)), (.int (0 : Int32)), (.int (0 : Int32)), (.int (0 : Int32)), (.int (0 : Int32)), (.int (0 : Int32)), (.int (0 : Int32)), (.int (0 : Int32)), (.int (0 : Int32)), (.int (0 : Int32)), (.int (0 : Int32)), (.int (0 : Int32)), (.int (0 : Int32))] (.int (0 : Int32)) := (Arv.new A1 (by decide)).pad (pad_rep [] (.int (0 : Int32)) 32)
  show own_Go p e below _ (T1.setTop (mkF m 4 #[.val (.int p0), .val (.int p1), .val (.int p2), .unset, .unset, .unset, .unset] [(.ref b1)]))
  refine own_st (fun _ k => XS.dup X1.here hx rfl (hb hby at_4) rfl rfl k) ?_
  show own_Go p e below _ (T1.setTop (mkF m 5 #[.val (.int p0), .val (.int p1), .val (.int p2), .unset, .unset, .unset, .unset] [(.ref b1), (.ref b1)]))
  refine own_st (fun _ k => XS.iconst X1.here hx rfl (hb hby at_5) k) ?_
  show own_Go p e below _ (T1.setTop (mkF m 6 #[.val (.int p0), .val (.int p1), .val (.int p2), .unset, .unset, .unset, .unset] [(.int (0 : Int32)), (.ref b1), (.ref b1)]))
  refine own_st (fun _ k => XS.bipush X1.here hx rfl (hb hby at_6) k) ?_
  show own_Go p e below _ (T1.setTop (mkF m 8 #[.val (.int p0), .val (.int p1), .val (.int p2), .unset, .unset, .unset, .unset] [(.int (58 : Int32)), (.int (0 : Int32)), (.ref b1), (.ref b1)]))
  obtain ⟨cl2, Ar2, qc2, S2, M2, H2, G2⟩ := V_b1
  obtain ⟨T2, h2, X2, e2, W2, st2⟩ := stI X1 hx hZ e1 Ar2 (j := (0 : Int32)) (inb_of S2 ⟨by decide, by decide⟩) (g := (mkF m 8 #[.val (.int p0), .val (.int p1), .val (.int p2), .unset, .unset, .unset, .unset] [(.int (58 : Int32)), (.int (0 : Int32)), (.ref b1), (.ref b1)])) rfl rfl (hb hby at_8)
  refine own_st st2 ?_
  replace Z0 := Nat.le_trans Z0 (Nat.le_of_eq W2.size.symm)
  replace N0 := Fr.snoc X2 N0 g_b1
  have V_b1 : Arv Z h2 b1 k1 .int (32 : Int32) [(.int (58 : Int32)), (.int (0 : Int32)), (.int (0 : Int32)), (.int (0 : Int32)), (.int (0 : Int32)), (.int (0 : Int32)), (.int (0 : Int32)), (.int (0 : Int32)), (.int (0 : Int32)), (.int (0 : Int32)), (.int (0 : Int32)), (.int (0 : Int32)), (.int (0 : Int32)), (.int (0 : Int32)), (.int (0 : Int32)), (.int (0 : Int32)), (.int (0 : Int32)), (.int (0 : Int32)), (.int (0 : Int32)), (.int (0 : Int32)), (.int (0 : Int32)), (.int (0 : Int32)), (.int (0 : Int32)), (.int (0 : Int32)), (.int (0 : Int32)), (.int (0 : Int32)), (.int (0 : Int32)), (.int (0 : Int32)), (.int (0 : Int32)), (.int (0 : Int32)), (.int (0 : Int32)), (.int (0 : Int32))] (.int (0 : Int32)) := Arv.set Ar2 qc2 S2 M2 H2 G2 rfl W2 0 rfl (Nat.le_of_ble_eq_true rfl)
  show own_Go p e below _ (T2.setTop (mkF m 9 #[.val (.int p0), .val (.int p1), .val (.int p2), .unset, .unset, .unset, .unset] [(.ref b1)]))
  refine own_st (fun _ k => XS.dup X2.here hx rfl (hb hby at_9) rfl rfl k) ?_
  show own_Go p e below _ (T2.setTop (mkF m 10 #[.val (.int p0), .val (.int p1), .val (.int p2), .unset, .unset, .unset, .unset] [(.ref b1), (.ref b1)]))
  refine own_st (fun _ k => XS.iconst X2.here hx rfl (hb hby at_10) k) ?_
  show own_Go p e below _ (T2.setTop (mkF m 11 #[.val (.int p0), .val (.int p1), .val (.int p2), .unset, .unset, .unset, .unset] [(.int (1 : Int32)), (.ref b1), (.ref b1)]))
  refine own_st (fun _ k => XS.bipush X2.here hx rfl (hb hby at_11) k) ?_
  show own_Go p e below _ (T2.setTop (mkF m 13 #[.val (.int p0), .val (.int p1), .val (.int p2), .unset, .unset, .unset, .unset] [(.int (58 : Int32)), (.int (1 : Int32)), (.ref b1), (.ref b1)]))
  obtain ⟨cl3, Ar3, qc3, S3, M3, H3, G3⟩ := V_b1
  obtain ⟨T3, h3, X3, e3, W3, st3⟩ := stI X2 hx hZ e2 Ar3 (j := (1 : Int32)) (inb_of S3 ⟨by decide, by decide⟩) (g := (mkF m 13 #[.val (.int p0), .val (.int p1), .val (.int p2), .unset, .unset, .unset, .unset] [(.int (58 : Int32)), (.int (1 : Int32)), (.ref b1), (.ref b1)])) rfl rfl (hb hby at_13)
  refine own_st st3 ?_
  replace Z0 := Nat.le_trans Z0 (Nat.le_of_eq W3.size.symm)
  replace N0 := Fr.snoc X3 N0 g_b1
  have V_b1 : Arv Z h3 b1 k1 .int (32 : Int32) [(.int (58 : Int32)), (.int (58 : Int32)), (.int (0 : Int32)), (.int (0 : Int32)), (.int (0 : Int32)), (.int (0 : Int32)), (.int (0 : Int32)), (.int (0 : Int32)), (.int (0 : Int32)), (.int (0 : Int32)), (.int (0 : Int32)), (.int (0 : Int32)), (.int (0 : Int32)), (.int (0 : Int32)), (.int (0 : Int32)), (.int (0 : Int32)), (.int (0 : Int32)), (.int (0 : Int32)), (.int (0 : Int32)), (.int (0 : Int32)), (.int (0 : Int32)), (.int (0 : Int32)), (.int (0 : Int32)), (.int (0 : Int32)), (.int (0 : Int32)), (.int (0 : Int32)), (.int (0 : Int32)), (.int (0 : Int32)), (.int (0 : Int32)), (.int (0 : Int32)), (.int (0 : Int32)), (.int (0 : Int32))] (.int (0 : Int32)) := Arv.set Ar3 qc3 S3 M3 H3 G3 rfl W3 1 rfl (Nat.le_of_ble_eq_true rfl)
  show own_Go p e below _ (T3.setTop (mkF m 14 #[.val (.int p0), .val (.int p1), .val (.int p2), .unset, .unset, .unset, .unset] [(.ref b1)]))
  refine own_st (fun _ k => XS.dup X3.here hx rfl (hb hby at_14) rfl rfl k) ?_
  show own_Go p e below _ (T3.setTop (mkF m 15 #[.val (.int p0), .val (.int p1), .val (.int p2), .unset, .unset, .unset, .unset] [(.ref b1), (.ref b1)]))
  refine own_st (fun _ k => XS.iconst X3.here hx rfl (hb hby at_15) k) ?_
  show own_Go p e below _ (T3.setTop (mkF m 16 #[.val (.int p0), .val (.int p1), .val (.int p2), .unset, .unset, .unset, .unset] [(.int (2 : Int32)), (.ref b1), (.ref b1)]))
  refine own_st (fun _ k => XS.bipush X3.here hx rfl (hb hby at_16) k) ?_
  show own_Go p e below _ (T3.setTop (mkF m 18 #[.val (.int p0), .val (.int p1), .val (.int p2), .unset, .unset, .unset, .unset] [(.int (95 : Int32)), (.int (2 : Int32)), (.ref b1), (.ref b1)]))
  obtain ⟨cl4, Ar4, qc4, S4, M4, H4, G4⟩ := V_b1
  obtain ⟨T4, h4, X4, e4, W4, st4⟩ := stI X3 hx hZ e3 Ar4 (j := (2 : Int32)) (inb_of S4 ⟨by decide, by decide⟩) (g := (mkF m 18 #[.val (.int p0), .val (.int p1), .val (.int p2), .unset, .unset, .unset, .unset] [(.int (95 : Int32)), (.int (2 : Int32)), (.ref b1), (.ref b1)])) rfl rfl (hb hby at_18)
  refine own_st st4 ?_
  replace Z0 := Nat.le_trans Z0 (Nat.le_of_eq W4.size.symm)
  replace N0 := Fr.snoc X4 N0 g_b1
  have V_b1 : Arv Z h4 b1 k1 .int (32 : Int32) [(.int (58 : Int32)), (.int (58 : Int32)), (.int (95 : Int32)), (.int (0 : Int32)), (.int (0 : Int32)), (.int (0 : Int32)), (.int (0 : Int32)), (.int (0 : Int32)), (.int (0 : Int32)), (.int (0 : Int32)), (.int (0 : Int32)), (.int (0 : Int32)), (.int (0 : Int32)), (.int (0 : Int32)), (.int (0 : Int32)), (.int (0 : Int32)), (.int (0 : Int32)), (.int (0 : Int32)), (.int (0 : Int32)), (.int (0 : Int32)), (.int (0 : Int32)), (.int (0 : Int32)), (.int (0 : Int32)), (.int (0 : Int32)), (.int (0 : Int32)), (.int (0 : Int32)), (.int (0 : Int32)), (.int (0 : Int32)), (.int (0 : Int32)), (.int (0 : Int32)), (.int (0 : Int32)), (.int (0 : Int32))] (.int (0 : Int32)) := Arv.set Ar4 qc4 S4 M4 H4 G4 rfl W4 2 rfl (Nat.le_of_ble_eq_true rfl)
  show own_Go p e below _ (T4.setTop (mkF m 19 #[.val (.int p0), .val (.int p1), .val (.int p2), .unset, .unset, .unset, .unset] [(.ref b1)]))
  refine own_st (fun _ k => XS.dup X4.here hx rfl (hb hby at_19) rfl rfl k) ?_
  show own_Go p e below _ (T4.setTop (mkF m 20 #[.val (.int p0), .val (.int p1), .val (.int p2), .unset, .unset, .unset, .unset] [(.ref b1), (.ref b1)]))
  refine own_st (fun _ k => XS.iconst X4.here hx rfl (hb hby at_20) k) ?_
  show own_Go p e below _ (T4.setTop (mkF m 21 #[.val (.int p0), .val (.int p1), .val (.int p2), .unset, .unset, .unset, .unset] [(.int (3 : Int32)), (.ref b1), (.ref b1)]))
  refine own_st (fun _ k => XS.bipush X4.here hx rfl (hb hby at_21) k) ?_
  show own_Go p e below _ (T4.setTop (mkF m 23 #[.val (.int p0), .val (.int p1), .val (.int p2), .unset, .unset, .unset, .unset] [(.int (95 : Int32)), (.int (3 : Int32)), (.ref b1), (.ref b1)]))
  obtain ⟨cl5, Ar5, qc5, S5, M5, H5, G5⟩ := V_b1
  obtain ⟨T5, h5, X5, e5, W5, st5⟩ := stI X4 hx hZ e4 Ar5 (j := (3 : Int32)) (inb_of S5 ⟨by decide, by decide⟩) (g := (mkF m 23 #[.val (.int p0), .val (.int p1), .val (.int p2), .unset, .unset, .unset, .unset] [(.int (95 : Int32)), (.int (3 : Int32)), (.ref b1), (.ref b1)])) rfl rfl (hb hby at_23)
  refine own_st st5 ?_
  replace Z0 := Nat.le_trans Z0 (Nat.le_of_eq W5.size.symm)
  replace N0 := Fr.snoc X5 N0 g_b1
  have V_b1 : Arv Z h5 b1 k1 .int (32 : Int32) [(.int (58 : Int32)), (.int (58 : Int32)), (.int (95 : Int32)), (.int (95 : Int32)), (.int (0 : Int32)), (.int (0 : Int32)), (.int (0 : Int32)), (.int (0 : Int32)), (.int (0 : Int32)), (.int (0 : Int32)), (.int (0 : Int32)), (.int (0 : Int32)), (.int (0 : Int32)), (.int (0 : Int32)), (.int (0 : Int32)), (.int (0 : Int32)), (.int (0 : Int32)), (.int (0 : Int32)), (.int (0 : Int32)), (.int (0 : Int32)), (.int (0 : Int32)), (.int (0 : Int32)), (.int (0 : Int32)), (.int (0 : Int32)), (.int (0 : Int32)), (.int (0 : Int32)), (.int (0 : Int32)), (.int (0 : Int32)), (.int (0 : Int32)), (.int (0 : Int32)), (.int (0 : Int32)), (.int (0 : Int32))] (.int (0 : Int32)) := Arv.set Ar5 qc5 S5 M5 H5 G5 rfl W5 3 rfl (Nat.le_of_ble_eq_true rfl)
  show own_Go p e below _ (T5.setTop (mkF m 24 #[.val (.int p0), .val (.int p1), .val (.int p2), .unset, .unset, .unset, .unset] [(.ref b1)]))
  refine own_st (fun _ k => XS.dup X5.here hx rfl (hb hby at_24) rfl rfl k) ?_
  show own_Go p e below _ (T5.setTop (mkF m 25 #[.val (.int p0), .val (.int p1), .val (.int p2), .unset, .unset, .unset, .unset] [(.ref b1), (.ref b1)]))
  refine own_st (fun _ k => XS.iconst X5.here hx rfl (hb hby at_25) k) ?_
  show own_Go p e below _ (T5.setTop (mkF m 26 #[.val (.int p0), .val (.int p1), .val (.int p2), .unset, .unset, .unset, .unset] [(.int (4 : Int32)), (.ref b1), (.ref b1)]))
  refine own_st (fun _ k => XS.bipush X5.here hx rfl (hb hby at_26) k) ?_
  show own_Go p e below _ (T5.setTop (mkF m 28 #[.val (.int p0), .val (.int p1), .val (.int p2), .unset, .unset, .unset, .unset] [(.int (65 : Int32)), (.int (4 : Int32)), (.ref b1), (.ref b1)]))
  obtain ⟨cl6, Ar6, qc6, S6, M6, H6, G6⟩ := V_b1
  obtain ⟨T6, h6, X6, e6, W6, st6⟩ := stI X5 hx hZ e5 Ar6 (j := (4 : Int32)) (inb_of S6 ⟨by decide, by decide⟩) (g := (mkF m 28 #[.val (.int p0), .val (.int p1), .val (.int p2), .unset, .unset, .unset, .unset] [(.int (65 : Int32)), (.int (4 : Int32)), (.ref b1), (.ref b1)])) rfl rfl (hb hby at_28)
  refine own_st st6 ?_
  replace Z0 := Nat.le_trans Z0 (Nat.le_of_eq W6.size.symm)
  replace N0 := Fr.snoc X6 N0 g_b1
  have V_b1 : Arv Z h6 b1 k1 .int (32 : Int32) [(.int (58 : Int32)), (.int (58 : Int32)), (.int (95 : Int32)), (.int (95 : Int32)), (.int (65 : Int32)), (.int (0 : Int32)), (.int (0 : Int32)), (.int (0 : Int32)), (.int (0 : Int32)), (.int (0 : Int32)), (.int (0 : Int32)), (.int (0 : Int32)), (.int (0 : Int32)), (.int (0 : Int32)), (.int (0 : Int32)), (.int (0 : Int32)), (.int (0 : Int32)), (.int (0 : Int32)), (.int (0 : Int32)), (.int (0 : Int32)), (.int (0 : Int32)), (.int (0 : Int32)), (.int (0 : Int32)), (.int (0 : Int32)), (.int (0 : Int32)), (.int (0 : Int32)), (.int (0 : Int32)), (.int (0 : Int32)), (.int (0 : Int32)), (.int (0 : Int32)), (.int (0 : Int32)), (.int (0 : Int32))] (.int (0 : Int32)) := Arv.set Ar6 qc6 S6 M6 H6 G6 rfl W6 4 rfl (Nat.le_of_ble_eq_true rfl)
  show own_Go p e below _ (T6.setTop (mkF m 29 #[.val (.int p0), .val (.int p1), .val (.int p2), .unset, .unset, .unset, .unset] [(.ref b1)]))
  refine own_st (fun _ k => XS.dup X6.here hx rfl (hb hby at_29) rfl rfl k) ?_
  show own_Go p e below _ (T6.setTop (mkF m 30 #[.val (.int p0), .val (.int p1), .val (.int p2), .unset, .unset, .unset, .unset] [(.ref b1), (.ref b1)]))
  refine own_st (fun _ k => XS.iconst X6.here hx rfl (hb hby at_30) k) ?_
  show own_Go p e below _ (T6.setTop (mkF m 31 #[.val (.int p0), .val (.int p1), .val (.int p2), .unset, .unset, .unset, .unset] [(.int (5 : Int32)), (.ref b1), (.ref b1)]))
  refine own_st (fun _ k => XS.bipush X6.here hx rfl (hb hby at_31) k) ?_
  show own_Go p e below _ (T6.setTop (mkF m 33 #[.val (.int p0), .val (.int p1), .val (.int p2), .unset, .unset, .unset, .unset] [(.int (90 : Int32)), (.int (5 : Int32)), (.ref b1), (.ref b1)]))
  obtain ⟨cl7, Ar7, qc7, S7, M7, H7, G7⟩ := V_b1
  obtain ⟨T7, h7, X7, e7, W7, st7⟩ := stI X6 hx hZ e6 Ar7 (j := (5 : Int32)) (inb_of S7 ⟨by decide, by decide⟩) (g := (mkF m 33 #[.val (.int p0), .val (.int p1), .val (.int p2), .unset, .unset, .unset, .unset] [(.int (90 : Int32)), (.int (5 : Int32)), (.ref b1), (.ref b1)])) rfl rfl (hb hby at_33)
  refine own_st st7 ?_
  replace Z0 := Nat.le_trans Z0 (Nat.le_of_eq W7.size.symm)
  replace N0 := Fr.snoc X7 N0 g_b1
  have V_b1 : Arv Z h7 b1 k1 .int (32 : Int32) [(.int (58 : Int32)), (.int (58 : Int32)), (.int (95 : Int32)), (.int (95 : Int32)), (.int (65 : Int32)), (.int (90 : Int32)), (.int (0 : Int32)), (.int (0 : Int32)), (.int (0 : Int32)), (.int (0 : Int32)), (.int (0 : Int32)), (.int (0 : Int32)), (.int (0 : Int32)), (.int (0 : Int32)), (.int (0 : Int32)), (.int (0 : Int32)), (.int (0 : Int32)), (.int (0 : Int32)), (.int (0 : Int32)), (.int (0 : Int32)), (.int (0 : Int32)), (.int (0 : Int32)), (.int (0 : Int32)), (.int (0 : Int32)), (.int (0 : Int32)), (.int (0 : Int32)), (.int (0 : Int32)), (.int (0 : Int32)), (.int (0 : Int32)), (.int (0 : Int32)), (.int (0 : Int32)), (.int (0 : Int32))] (.int (0 : Int32)) := Arv.set Ar7 qc7 S7 M7 H7 G7 rfl W7 5 rfl (Nat.le_of_ble_eq_true rfl)
  show own_Go p e below _ (T7.setTop (mkF m 34 #[.val (.int p0), .val (.int p1), .val (.int p2), .unset, .unset, .unset, .unset] [(.ref b1)]))
  refine own_st (fun _ k => XS.dup X7.here hx rfl (hb hby at_34) rfl rfl k) ?_
  show own_Go p e below _ (T7.setTop (mkF m 35 #[.val (.int p0), .val (.int p1), .val (.int p2), .unset, .unset, .unset, .unset] [(.ref b1), (.ref b1)]))
  refine own_st (fun _ k => XS.bipush X7.here hx rfl (hb hby at_35) k) ?_
  show own_Go p e below _ (T7.setTop (mkF m 37 #[.val (.int p0), .val (.int p1), .val (.int p2), .unset, .unset, .unset, .unset] [(.int (6 : Int32)), (.ref b1), (.ref b1)]))
  refine own_st (fun _ k => XS.bipush X7.here hx rfl (hb hby at_37) k) ?_
  show own_Go p e below _ (T7.setTop (mkF m 39 #[.val (.int p0), .val (.int p1), .val (.int p2), .unset, .unset, .unset, .unset] [(.int (97 : Int32)), (.int (6 : Int32)), (.ref b1), (.ref b1)]))
  obtain ⟨cl8, Ar8, qc8, S8, M8, H8, G8⟩ := V_b1
  obtain ⟨T8, h8, X8, e8, W8, st8⟩ := stI X7 hx hZ e7 Ar8 (j := (6 : Int32)) (inb_of S8 ⟨by decide, by decide⟩) (g := (mkF m 39 #[.val (.int p0), .val (.int p1), .val (.int p2), .unset, .unset, .unset, .unset] [(.int (97 : Int32)), (.int (6 : Int32)), (.ref b1), (.ref b1)])) rfl rfl (hb hby at_39)
  refine own_st st8 ?_
  replace Z0 := Nat.le_trans Z0 (Nat.le_of_eq W8.size.symm)
  replace N0 := Fr.snoc X8 N0 g_b1
  have V_b1 : Arv Z h8 b1 k1 .int (32 : Int32) [(.int (58 : Int32)), (.int (58 : Int32)), (.int (95 : Int32)), (.int (95 : Int32)), (.int (65 : Int32)), (.int (90 : Int32)), (.int (97 : Int32)), (.int (0 : Int32)), (.int (0 : Int32)), (.int (0 : Int32)), (.int (0 : Int32)), (.int (0 : Int32)), (.int (0 : Int32)), (.int (0 : Int32)), (.int (0 : Int32)), (.int (0 : Int32)), (.int (0 : Int32)), (.int (0 : Int32)), (.int (0 : Int32)), (.int (0 : Int32)), (.int (0 : Int32)), (.int (0 : Int32)), (.int (0 : Int32)), (.int (0 : Int32)), (.int (0 : Int32)), (.int (0 : Int32)), (.int (0 : Int32)), (.int (0 : Int32)), (.int (0 : Int32)), (.int (0 : Int32)), (.int (0 : Int32)), (.int (0 : Int32))] (.int (0 : Int32)) := Arv.set Ar8 qc8 S8 M8 H8 G8 rfl W8 6 rfl (Nat.le_of_ble_eq_true rfl)
  show own_Go p e below _ (T8.setTop (mkF m 40 #[.val (.int p0), .val (.int p1), .val (.int p2), .unset, .unset, .unset, .unset] [(.ref b1)]))
  refine own_st (fun _ k => XS.dup X8.here hx rfl (hb hby at_40) rfl rfl k) ?_
  show own_Go p e below _ (T8.setTop (mkF m 41 #[.val (.int p0), .val (.int p1), .val (.int p2), .unset, .unset, .unset, .unset] [(.ref b1), (.ref b1)]))
  refine own_st (fun _ k => XS.bipush X8.here hx rfl (hb hby at_41) k) ?_
  show own_Go p e below _ (T8.setTop (mkF m 43 #[.val (.int p0), .val (.int p1), .val (.int p2), .unset, .unset, .unset, .unset] [(.int (7 : Int32)), (.ref b1), (.ref b1)]))
  refine own_st (fun _ k => XS.bipush X8.here hx rfl (hb hby at_43) k) ?_
  show own_Go p e below _ (T8.setTop (mkF m 45 #[.val (.int p0), .val (.int p1), .val (.int p2), .unset, .unset, .unset, .unset] [(.int (122 : Int32)), (.int (7 : Int32)), (.ref b1), (.ref b1)]))
  obtain ⟨cl9, Ar9, qc9, S9, M9, H9, G9⟩ := V_b1
  obtain ⟨T9, h9, X9, e9, W9, st9⟩ := stI X8 hx hZ e8 Ar9 (j := (7 : Int32)) (inb_of S9 ⟨by decide, by decide⟩) (g := (mkF m 45 #[.val (.int p0), .val (.int p1), .val (.int p2), .unset, .unset, .unset, .unset] [(.int (122 : Int32)), (.int (7 : Int32)), (.ref b1), (.ref b1)])) rfl rfl (hb hby at_45)
  refine own_st st9 ?_
  replace Z0 := Nat.le_trans Z0 (Nat.le_of_eq W9.size.symm)
  replace N0 := Fr.snoc X9 N0 g_b1
  have V_b1 : Arv Z h9 b1 k1 .int (32 : Int32) [(.int (58 : Int32)), (.int (58 : Int32)), (.int (95 : Int32)), (.int (95 : Int32)), (.int (65 : Int32)), (.int (90 : Int32)), (.int (97 : Int32)), (.int (122 : Int32)), (.int (0 : Int32)), (.int (0 : Int32)), (.int (0 : Int32)), (.int (0 : Int32)), (.int (0 : Int32)), (.int (0 : Int32)), (.int (0 : Int32)), (.int (0 : Int32)), (.int (0 : Int32)), (.int (0 : Int32)), (.int (0 : Int32)), (.int (0 : Int32)), (.int (0 : Int32)), (.int (0 : Int32)), (.int (0 : Int32)), (.int (0 : Int32)), (.int (0 : Int32)), (.int (0 : Int32)), (.int (0 : Int32)), (.int (0 : Int32)), (.int (0 : Int32)), (.int (0 : Int32)), (.int (0 : Int32)), (.int (0 : Int32))] (.int (0 : Int32)) := Arv.set Ar9 qc9 S9 M9 H9 G9 rfl W9 7 rfl (Nat.le_of_ble_eq_true rfl)
  show own_Go p e below _ (T9.setTop (mkF m 46 #[.val (.int p0), .val (.int p1), .val (.int p2), .unset, .unset, .unset, .unset] [(.ref b1)]))
  refine own_st (fun _ k => XS.dup X9.here hx rfl (hb hby at_46) rfl rfl k) ?_
  show own_Go p e below _ (T9.setTop (mkF m 47 #[.val (.int p0), .val (.int p1), .val (.int p2), .unset, .unset, .unset, .unset] [(.ref b1), (.ref b1)]))
  refine own_st (fun _ k => XS.bipush X9.here hx rfl (hb hby at_47) k) ?_
  show own_Go p e below _ (T9.setTop (mkF m 49 #[.val (.int p0), .val (.int p1), .val (.int p2), .unset, .unset, .unset, .unset] [(.int (8 : Int32)), (.ref b1), (.ref b1)]))
  refine own_st (fun _ k => XS.sipush X9.here hx rfl (hb hby at_49) k) ?_
  show own_Go p e below _ (T9.setTop (mkF m 52 #[.val (.int p0), .val (.int p1), .val (.int p2), .unset, .unset, .unset, .unset] [(.int (192 : Int32)), (.int (8 : Int32)), (.ref b1), (.ref b1)]))
  obtain ⟨cl10, Ar10, qc10, S10, M10, H10, G10⟩ := V_b1
  obtain ⟨T10, h10, X10, e10, W10, st10⟩ := stI X9 hx hZ e9 Ar10 (j := (8 : Int32)) (inb_of S10 ⟨by decide, by decide⟩) (g := (mkF m 52 #[.val (.int p0), .val (.int p1), .val (.int p2), .unset, .unset, .unset, .unset] [(.int (192 : Int32)), (.int (8 : Int32)), (.ref b1), (.ref b1)])) rfl rfl (hb hby at_52)
  refine own_st st10 ?_
  replace Z0 := Nat.le_trans Z0 (Nat.le_of_eq W10.size.symm)
  replace N0 := Fr.snoc X10 N0 g_b1
  have V_b1 : Arv Z h10 b1 k1 .int (32 : Int32) [(.int (58 : Int32)), (.int (58 : Int32)), (.int (95 : Int32)), (.int (95 : Int32)), (.int (65 : Int32)), (.int (90 : Int32)), (.int (97 : Int32)), (.int (122 : Int32)), (.int (192 : Int32)), (.int (0 : Int32)), (.int (0 : Int32)), (.int (0 : Int32)), (.int (0 : Int32)), (.int (0 : Int32)), (.int (0 : Int32)), (.int (0 : Int32)), (.int (0 : Int32)), (.int (0 : Int32)), (.int (0 : Int32)), (.int (0 : Int32)), (.int (0 : Int32)), (.int (0 : Int32)), (.int (0 : Int32)), (.int (0 : Int32)), (.int (0 : Int32)), (.int (0 : Int32)), (.int (0 : Int32)), (.int (0 : Int32)), (.int (0 : Int32)), (.int (0 : Int32)), (.int (0 : Int32)), (.int (0 : Int32))] (.int (0 : Int32)) := Arv.set Ar10 qc10 S10 M10 H10 G10 rfl W10 8 rfl (Nat.le_of_ble_eq_true rfl)
  show own_Go p e below _ (T10.setTop (mkF m 53 #[.val (.int p0), .val (.int p1), .val (.int p2), .unset, .unset, .unset, .unset] [(.ref b1)]))
  refine own_st (fun _ k => XS.dup X10.here hx rfl (hb hby at_53) rfl rfl k) ?_
  show own_Go p e below _ (T10.setTop (mkF m 54 #[.val (.int p0), .val (.int p1), .val (.int p2), .unset, .unset, .unset, .unset] [(.ref b1), (.ref b1)]))
  refine own_st (fun _ k => XS.bipush X10.here hx rfl (hb hby at_54) k) ?_
  show own_Go p e below _ (T10.setTop (mkF m 56 #[.val (.int p0), .val (.int p1), .val (.int p2), .unset, .unset, .unset, .unset] [(.int (9 : Int32)), (.ref b1), (.ref b1)]))
  refine own_st (fun _ k => XS.sipush X10.here hx rfl (hb hby at_56) k) ?_
  show own_Go p e below _ (T10.setTop (mkF m 59 #[.val (.int p0), .val (.int p1), .val (.int p2), .unset, .unset, .unset, .unset] [(.int (214 : Int32)), (.int (9 : Int32)), (.ref b1), (.ref b1)]))
  obtain ⟨cl11, Ar11, qc11, S11, M11, H11, G11⟩ := V_b1
  obtain ⟨T11, h11, X11, e11, W11, st11⟩ := stI X10 hx hZ e10 Ar11 (j := (9 : Int32)) (inb_of S11 ⟨by decide, by decide⟩) (g := (mkF m 59 #[.val (.int p0), .val (.int p1), .val (.int p2), .unset, .unset, .unset, .unset] [(.int (214 : Int32)), (.int (9 : Int32)), (.ref b1), (.ref b1)])) rfl rfl (hb hby at_59)
  refine own_st st11 ?_
  replace Z0 := Nat.le_trans Z0 (Nat.le_of_eq W11.size.symm)
  replace N0 := Fr.snoc X11 N0 g_b1
  have V_b1 : Arv Z h11 b1 k1 .int (32 : Int32) [(.int (58 : Int32)), (.int (58 : Int32)), (.int (95 : Int32)), (.int (95 : Int32)), (.int (65 : Int32)), (.int (90 : Int32)), (.int (97 : Int32)), (.int (122 : Int32)), (.int (192 : Int32)), (.int (214 : Int32)), (.int (0 : Int32)), (.int (0 : Int32)), (.int (0 : Int32)), (.int (0 : Int32)), (.int (0 : Int32)), (.int (0 : Int32)), (.int (0 : Int32)), (.int (0 : Int32)), (.int (0 : Int32)), (.int (0 : Int32)), (.int (0 : Int32)), (.int (0 : Int32)), (.int (0 : Int32)), (.int (0 : Int32)), (.int (0 : Int32)), (.int (0 : Int32)), (.int (0 : Int32)), (.int (0 : Int32)), (.int (0 : Int32)), (.int (0 : Int32)), (.int (0 : Int32)), (.int (0 : Int32))] (.int (0 : Int32)) := Arv.set Ar11 qc11 S11 M11 H11 G11 rfl W11 9 rfl (Nat.le_of_ble_eq_true rfl)
  show own_Go p e below _ (T11.setTop (mkF m 60 #[.val (.int p0), .val (.int p1), .val (.int p2), .unset, .unset, .unset, .unset] [(.ref b1)]))
  refine own_st (fun _ k => XS.dup X11.here hx rfl (hb hby at_60) rfl rfl k) ?_
  show own_Go p e below _ (T11.setTop (mkF m 61 #[.val (.int p0), .val (.int p1), .val (.int p2), .unset, .unset, .unset, .unset] [(.ref b1), (.ref b1)]))
  refine own_st (fun _ k => XS.bipush X11.here hx rfl (hb hby at_61) k) ?_
  show own_Go p e below _ (T11.setTop (mkF m 63 #[.val (.int p0), .val (.int p1), .val (.int p2), .unset, .unset, .unset, .unset] [(.int (10 : Int32)), (.ref b1), (.ref b1)]))
  refine own_st (fun _ k => XS.sipush X11.here hx rfl (hb hby at_63) k) ?_
  show own_Go p e below _ (T11.setTop (mkF m 66 #[.val (.int p0), .val (.int p1), .val (.int p2), .unset, .unset, .unset, .unset] [(.int (216 : Int32)), (.int (10 : Int32)), (.ref b1), (.ref b1)]))
  obtain ⟨cl12, Ar12, qc12, S12, M12, H12, G12⟩ := V_b1
  obtain ⟨T12, h12, X12, e12, W12, st12⟩ := stI X11 hx hZ e11 Ar12 (j := (10 : Int32)) (inb_of S12 ⟨by decide, by decide⟩) (g := (mkF m 66 #[.val (.int p0), .val (.int p1), .val (.int p2), .unset, .unset, .unset, .unset] [(.int (216 : Int32)), (.int (10 : Int32)), (.ref b1), (.ref b1)])) rfl rfl (hb hby at_66)
  refine own_st st12 ?_
  replace Z0 := Nat.le_trans Z0 (Nat.le_of_eq W12.size.symm)
  replace N0 := Fr.snoc X12 N0 g_b1
  have V_b1 : Arv Z h12 b1 k1 .int (32 : Int32) [(.int (58 : Int32)), (.int (58 : Int32)), (.int (95 : Int32)), (.int (95 : Int32)), (.int (65 : Int32)), (.int (90 : Int32)), (.int (97 : Int32)), (.int (122 : Int32)), (.int (192 : Int32)), (.int (214 : Int32)), (.int (216 : Int32)), (.int (0 : Int32)), (.int (0 : Int32)), (.int (0 : Int32)), (.int (0 : Int32)), (.int (0 : Int32)), (.int (0 : Int32)), (.int (0 : Int32)), (.int (0 : Int32)), (.int (0 : Int32)), (.int (0 : Int32)), (.int (0 : Int32)), (.int (0 : Int32)), (.int (0 : Int32)), (.int (0 : Int32)), (.int (0 : Int32)), (.int (0 : Int32)), (.int (0 : Int32)), (.int (0 : Int32)), (.int (0 : Int32)), (.int (0 : Int32)), (.int (0 : Int32))] (.int (0 : Int32)) := Arv.set Ar12 qc12 S12 M12 H12 G12 rfl W12 10 rfl (Nat.le_of_ble_eq_true rfl)
  show own_Go p e below _ (T12.setTop (mkF m 67 #[.val (.int p0), .val (.int p1), .val (.int p2), .unset, .unset, .unset, .unset] [(.ref b1)]))
  refine own_st (fun _ k => XS.dup X12.here hx rfl (hb hby at_67) rfl rfl k) ?_
  show own_Go p e below _ (T12.setTop (mkF m 68 #[.val (.int p0), .val (.int p1), .val (.int p2), .unset, .unset, .unset, .unset] [(.ref b1), (.ref b1)]))
  refine own_st (fun _ k => XS.bipush X12.here hx rfl (hb hby at_68) k) ?_
  show own_Go p e below _ (T12.setTop (mkF m 70 #[.val (.int p0), .val (.int p1), .val (.int p2), .unset, .unset, .unset, .unset] [(.int (11 : Int32)), (.ref b1), (.ref b1)]))
  refine own_st (fun _ k => XS.sipush X12.here hx rfl (hb hby at_70) k) ?_
  show own_Go p e below _ (T12.setTop (mkF m 73 #[.val (.int p0), .val (.int p1), .val (.int p2), .unset, .unset, .unset, .unset] [(.int (246 : Int32)), (.int (11 : Int32)), (.ref b1), (.ref b1)]))
  obtain ⟨cl13, Ar13, qc13, S13, M13, H13, G13⟩ := V_b1
  obtain ⟨T13, h13, X13, e13, W13, st13⟩ := stI X12 hx hZ e12 Ar13 (j := (11 : Int32)) (inb_of S13 ⟨by decide, by decide⟩) (g := (mkF m 73 #[.val (.int p0), .val (.int p1), .val (.int p2), .unset, .unset, .unset, .unset] [(.int (246 : Int32)), (.int (11 : Int32)), (.ref b1), (.ref b1)])) rfl rfl (hb hby at_73)
  refine own_st st13 ?_
  replace Z0 := Nat.le_trans Z0 (Nat.le_of_eq W13.size.symm)
  replace N0 := Fr.snoc X13 N0 g_b1
  have V_b1 : Arv Z h13 b1 k1 .int (32 : Int32) [(.int (58 : Int32)), (.int (58 : Int32)), (.int (95 : Int32)), (.int (95 : Int32)), (.int (65 : Int32)), (.int (90 : Int32)), (.int (97 : Int32)), (.int (122 : Int32)), (.int (192 : Int32)), (.int (214 : Int32)), (.int (216 : Int32)), (.int (246 : Int32)), (.int (0 : Int32)), (.int (0 : Int32)), (.int (0 : Int32)), (.int (0 : Int32)), (.int (0 : Int32)), (.int (0 : Int32)), (.int (0 : Int32)), (.int (0 : Int32)), (.int (0 : Int32)), (.int (0 : Int32)), (.int (0 : Int32)), (.int (0 : Int32)), (.int (0 : Int32)), (.int (0 : Int32)), (.int (0 : Int32)), (.int (0 : Int32)), (.int (0 : Int32)), (.int (0 : Int32)), (.int (0 : Int32)), (.int (0 : Int32))] (.int (0 : Int32)) := Arv.set Ar13 qc13 S13 M13 H13 G13 rfl W13 11 rfl (Nat.le_of_ble_eq_true rfl)
  show own_Go p e below _ (T13.setTop (mkF m 74 #[.val (.int p0), .val (.int p1), .val (.int p2), .unset, .unset, .unset, .unset] [(.ref b1)]))
  refine own_st (fun _ k => XS.dup X13.here hx rfl (hb hby at_74) rfl rfl k) ?_
  show own_Go p e below _ (T13.setTop (mkF m 75 #[.val (.int p0), .val (.int p1), .val (.int p2), .unset, .unset, .unset, .unset] [(.ref b1), (.ref b1)]))
  refine own_st (fun _ k => XS.bipush X13.here hx rfl (hb hby at_75) k) ?_
  show own_Go p e below _ (T13.setTop (mkF m 77 #[.val (.int p0), .val (.int p1), .val (.int p2), .unset, .unset, .unset, .unset] [(.int (12 : Int32)), (.ref b1), (.ref b1)]))
  refine own_st (fun _ k => XS.sipush X13.here hx rfl (hb hby at_77) k) ?_
  show own_Go p e below _ (T13.setTop (mkF m 80 #[.val (.int p0), .val (.int p1), .val (.int p2), .unset, .unset, .unset, .unset] [(.int (248 : Int32)), (.int (12 : Int32)), (.ref b1), (.ref b1)]))
  obtain ⟨cl14, Ar14, qc14, S14, M14, H14, G14⟩ := V_b1
  obtain ⟨T14, h14, X14, e14, W14, st14⟩ := stI X13 hx hZ e13 Ar14 (j := (12 : Int32)) (inb_of S14 ⟨by decide, by decide⟩) (g := (mkF m 80 #[.val (.int p0), .val (.int p1), .val (.int p2), .unset, .unset, .unset, .unset] [(.int (248 : Int32)), (.int (12 : Int32)), (.ref b1), (.ref b1)])) rfl rfl (hb hby at_80)
  refine own_st st14 ?_
  replace Z0 := Nat.le_trans Z0 (Nat.le_of_eq W14.size.symm)
  replace N0 := Fr.snoc X14 N0 g_b1
  have V_b1 : Arv Z h14 b1 k1 .int (32 : Int32) [(.int (58 : Int32)), (.int (58 : Int32)), (.int (95 : Int32)), (.int (95 : Int32)), (.int (65 : Int32)), (.int (90 : Int32)), (.int (97 : Int32)), (.int (122 : Int32)), (.int (192 : Int32)), (.int (214 : Int32)), (.int (216 : Int32)), (.int (246 : Int32)), (.int (248 : Int32)), (.int (0 : Int32)), (.int (0 : Int32)), (.int (0 : Int32)), (.int (0 : Int32)), (.int (0 : Int32)), (.int (0 : Int32)), (.int (0 : Int32)), (.int (0 : Int32)), (.int (0 : Int32)), (.int (0 : Int32)), (.int (0 : Int32)), (.int (0 : Int32)), (.int (0 : Int32)), (.int (0 : Int32)), (.int (0 : Int32)), (.int (0 : Int32)), (.int (0 : Int32)), (.int (0 : Int32)), (.int (0 : Int32))] (.int (0 : Int32)) := Arv.set Ar14 qc14 S14 M14 H14 G14 rfl W14 12 rfl (Nat.le_of_ble_eq_true rfl)
  show own_Go p e below _ (T14.setTop (mkF m 81 #[.val (.int p0), .val (.int p1), .val (.int p2), .unset, .unset, .unset, .unset] [(.ref b1)]))
  refine own_st (fun _ k => XS.dup X14.here hx rfl (hb hby at_81) rfl rfl k) ?_
  show own_Go p e below _ (T14.setTop (mkF m 82 #[.val (.int p0), .val (.int p1), .val (.int p2), .unset, .unset, .unset, .unset] [(.ref b1), (.ref b1)]))
  refine own_st (fun _ k => XS.bipush X14.here hx rfl (hb hby at_82) k) ?_
  show own_Go p e below _ (T14.setTop (mkF m 84 #[.val (.int p0), .val (.int p1), .val (.int p2), .unset, .unset, .unset, .unset] [(.int (13 : Int32)), (.ref b1), (.ref b1)]))
  refine own_st (fun _ k => XS.sipush X14.here hx rfl (hb hby at_84) k) ?_
  show own_Go p e below _ (T14.setTop (mkF m 87 #[.val (.int p0), .val (.int p1), .val (.int p2), .unset, .unset, .unset, .unset] [(.int (767 : Int32)), (.int (13 : Int32)), (.ref b1), (.ref b1)]))
  obtain ⟨cl15, Ar15, qc15, S15, M15, H15, G15⟩ := V_b1
  obtain ⟨T15, h15, X15, e15, W15, st15⟩ := stI X14 hx hZ e14 Ar15 (j := (13 : Int32)) (inb_of S15 ⟨by decide, by decide⟩) (g := (mkF m 87 #[.val (.int p0), .val (.int p1), .val (.int p2), .unset, .unset, .unset, .unset] [(.int (767 : Int32)), (.int (13 : Int32)), (.ref b1), (.ref b1)])) rfl rfl (hb hby at_87)
  refine own_st st15 ?_
  replace Z0 := Nat.le_trans Z0 (Nat.le_of_eq W15.size.symm)
  replace N0 := Fr.snoc X15 N0 g_b1
  have V_b1 : Arv Z h15 b1 k1 .int (32 : Int32) [(.int (58 : Int32)), (.int (58 : Int32)), (.int (95 : Int32)), (.int (95 : Int32)), (.int (65 : Int32)), (.int (90 : Int32)), (.int (97 : Int32)), (.int (122 : Int32)), (.int (192 : Int32)), (.int (214 : Int32)), (.int (216 : Int32)), (.int (246 : Int32)), (.int (248 : Int32)), (.int (767 : Int32)), (.int (0 : Int32)), (.int (0 : Int32)), (.int (0 : Int32)), (.int (0 : Int32)), (.int (0 : Int32)), (.int (0 : Int32)), (.int (0 : Int32)), (.int (0 : Int32)), (.int (0 : Int32)), (.int (0 : Int32)), (.int (0 : Int32)), (.int (0 : Int32)), (.int (0 : Int32)), (.int (0 : Int32)), (.int (0 : Int32)), (.int (0 : Int32)), (.int (0 : Int32)), (.int (0 : Int32))] (.int (0 : Int32)) := Arv.set Ar15 qc15 S15 M15 H15 G15 rfl W15 13 rfl (Nat.le_of_ble_eq_true rfl)
  show own_Go p e below _ (T15.setTop (mkF m 88 #[.val (.int p0), .val (.int p1), .val (.int p2), .unset, .unset, .unset, .unset] [(.ref b1)]))
  refine own_st (fun _ k => XS.dup X15.here hx rfl (hb hby at_88) rfl rfl k) ?_
  show own_Go p e below _ (T15.setTop (mkF m 89 #[.val (.int p0), .val (.int p1), .val (.int p2), .unset, .unset, .unset, .unset] [(.ref b1), (.ref b1)]))
  refine own_st (fun _ k => XS.bipush X15.here hx rfl (hb hby at_89) k) ?_
  show own_Go p e below _ (T15.setTop (mkF m 91 #[.val (.int p0), .val (.int p1), .val (.int p2), .unset, .unset, .unset, .unset] [(.int (14 : Int32)), (.ref b1), (.ref b1)]))
  refine own_st (fun _ k => XS.sipush X15.here hx rfl (hb hby at_91) k) ?_
  show own_Go p e below _ (T15.setTop (mkF m 94 #[.val (.int p0), .val (.int p1), .val (.int p2), .unset, .unset, .unset, .unset] [(.int (880 : Int32)), (.int (14 : Int32)), (.ref b1), (.ref b1)]))
  obtain ⟨cl16, Ar16, qc16, S16, M16, H16, G16⟩ := V_b1
  obtain ⟨T16, h16, X16, e16, W16, st16⟩ := stI X15 hx hZ e15 Ar16 (j := (14 : Int32)) (inb_of S16 ⟨by decide, by decide⟩) (g := (mkF m 94 #[.val (.int p0), .val (.int p1), .val (.int p2), .unset, .unset, .unset, .unset] [(.int (880 : Int32)), (.int (14 : Int32)), (.ref b1), (.ref b1)])) rfl rfl (hb hby at_94)
  refine own_st st16 ?_
  replace Z0 := Nat.le_trans Z0 (Nat.le_of_eq W16.size.symm)
  replace N0 := Fr.snoc X16 N0 g_b1
  have V_b1 : Arv Z h16 b1 k1 .int (32 : Int32) [(.int (58 : Int32)), (.int (58 : Int32)), (.int (95 : Int32)), (.int (95 : Int32)), (.int (65 : Int32)), (.int (90 : Int32)), (.int (97 : Int32)), (.int (122 : Int32)), (.int (192 : Int32)), (.int (214 : Int32)), (.int (216 : Int32)), (.int (246 : Int32)), (.int (248 : Int32)), (.int (767 : Int32)), (.int (880 : Int32)), (.int (0 : Int32)), (.int (0 : Int32)), (.int (0 : Int32)), (.int (0 : Int32)), (.int (0 : Int32)), (.int (0 : Int32)), (.int (0 : Int32)), (.int (0 : Int32)), (.int (0 : Int32)), (.int (0 : Int32)), (.int (0 : Int32)), (.int (0 : Int32)), (.int (0 : Int32)), (.int (0 : Int32)), (.int (0 : Int32)), (.int (0 : Int32)), (.int (0 : Int32))] (.int (0 : Int32)) := Arv.set Ar16 qc16 S16 M16 H16 G16 rfl W16 14 rfl (Nat.le_of_ble_eq_true rfl)
  show own_Go p e below _ (T16.setTop (mkF m 95 #[.val (.int p0), .val (.int p1), .val (.int p2), .unset, .unset, .unset, .unset] [(.ref b1)]))
  refine own_st (fun _ k => XS.dup X16.here hx rfl (hb hby at_95) rfl rfl k) ?_
  show own_Go p e below _ (T16.setTop (mkF m 96 #[.val (.int p0), .val (.int p1), .val (.int p2), .unset, .unset, .unset, .unset] [(.ref b1), (.ref b1)]))
  refine own_st (fun _ k => XS.bipush X16.here hx rfl (hb hby at_96) k) ?_
  show own_Go p e below _ (T16.setTop (mkF m 98 #[.val (.int p0), .val (.int p1), .val (.int p2), .unset, .unset, .unset, .unset] [(.int (15 : Int32)), (.ref b1), (.ref b1)]))
  refine own_st (fun _ k => XS.sipush X16.here hx rfl (hb hby at_98) k) ?_
  show own_Go p e below _ (T16.setTop (mkF m 101 #[.val (.int p0), .val (.int p1), .val (.int p2), .unset, .unset, .unset, .unset] [(.int (893 : Int32)), (.int (15 : Int32)), (.ref b1), (.ref b1)]))
  obtain ⟨cl17, Ar17, qc17, S17, M17, H17, G17⟩ := V_b1
  obtain ⟨T17, h17, X17, e17, W17, st17⟩ := stI X16 hx hZ e16 Ar17 (j := (15 : Int32)) (inb_of S17 ⟨by decide, by decide⟩) (g := (mkF m 101 #[.val (.int p0), .val (.int p1), .val (.int p2), .unset, .unset, .unset, .unset] [(.int (893 : Int32)), (.int (15 : Int32)), (.ref b1), (.ref b1)])) rfl rfl (hb hby at_101)
  refine own_st st17 ?_
  replace Z0 := Nat.le_trans Z0 (Nat.le_of_eq W17.size.symm)
  replace N0 := Fr.snoc X17 N0 g_b1
  have V_b1 : Arv Z h17 b1 k1 .int (32 : Int32) [(.int (58 : Int32)), (.int (58 : Int32)), (.int (95 : Int32)), (.int (95 : Int32)), (.int (65 : Int32)), (.int (90 : Int32)), (.int (97 : Int32)), (.int (122 : Int32)), (.int (192 : Int32)), (.int (214 : Int32)), (.int (216 : Int32)), (.int (246 : Int32)), (.int (248 : Int32)), (.int (767 : Int32)), (.int (880 : Int32)), (.int (893 : Int32)), (.int (0 : Int32)), (.int (0 : Int32)), (.int (0 : Int32)), (.int (0 : Int32)), (.int (0 : Int32)), (.int (0 : Int32)), (.int (0 : Int32)), (.int (0 : Int32)), (.int (0 : Int32)), (.int (0 : Int32)), (.int (0 : Int32)), (.int (0 : Int32)), (.int (0 : Int32)), (.int (0 : Int32)), (.int (0 : Int32)), (.int (0 : Int32))] (.int (0 : Int32)) := Arv.set Ar17 qc17 S17 M17 H17 G17 rfl W17 15 rfl (Nat.le_of_ble_eq_true rfl)
  show own_Go p e below _ (T17.setTop (mkF m 102 #[.val (.int p0), .val (.int p1), .val (.int p2), .unset, .unset, .unset, .unset] [(.ref b1)]))
  refine own_st (fun _ k => XS.dup X17.here hx rfl (hb hby at_102) rfl rfl k) ?_
  show own_Go p e below _ (T17.setTop (mkF m 103 #[.val (.int p0), .val (.int p1), .val (.int p2), .unset, .unset, .unset, .unset] [(.ref b1), (.ref b1)]))
  refine own_st (fun _ k => XS.bipush X17.here hx rfl (hb hby at_103) k) ?_
  show own_Go p e below _ (T17.setTop (mkF m 105 #[.val (.int p0), .val (.int p1), .val (.int p2), .unset, .unset, .unset, .unset] [(.int (16 : Int32)), (.ref b1), (.ref b1)]))
  refine own_st (fun _ k => XS.sipush X17.here hx rfl (hb hby at_105) k) ?_
  show own_Go p e below _ (T17.setTop (mkF m 108 #[.val (.int p0), .val (.int p1), .val (.int p2), .unset, .unset, .unset, .unset] [(.int (895 : Int32)), (.int (16 : Int32)), (.ref b1), (.ref b1)]))
  obtain ⟨cl18, Ar18, qc18, S18, M18, H18, G18⟩ := V_b1
  obtain ⟨T18, h18, X18, e18, W18, st18⟩ := stI X17 hx hZ e17 Ar18 (j := (16 : Int32)) (inb_of S18 ⟨by decide, by decide⟩) (g := (mkF m 108 #[.val (.int p0), .val (.int p1), .val (.int p2), .unset, .unset, .unset, .unset] [(.int (895 : Int32)), (.int (16 : Int32)), (.ref b1), (.ref b1)])) rfl rfl (hb hby at_108)
  refine own_st st18 ?_
  replace Z0 := Nat.le_trans Z0 (Nat.le_of_eq W18.size.symm)
  replace N0 := Fr.snoc X18 N0 g_b1
  have V_b1 : Arv Z h18 b1 k1 .int (32 : Int32) [(.int (58 : Int32)), (.int (58 : Int32)), (.int (95 : Int32)), (.int (95 : Int32)), (.int (65 : Int32)), (.int (90 : Int32)), (.int (97 : Int32)), (.int (122 : Int32)), (.int (192 : Int32)), (.int (214 : Int32)), (.int (216 : Int32)), (.int (246 : Int32)), (.int (248 : Int32)), (.int (767 : Int32)), (.int (880 : Int32)), (.int (893 : Int32)), (.int (895 : Int32)), (.int (0 : Int32)), (.int (0 : Int32)), (.int (0 : Int32)), (.int (0 : Int32)), (.int (0 : Int32)), (.int (0 : Int32)), (.int (0 : Int32)), (.int (0 : Int32)), (.int (0 : Int32)), (.int (0 : Int32)), (.int (0 : Int32)), (.int (0 : Int32)), (.int (0 : Int32)), (.int (0 : Int32)), (.int (0 : Int32))] (.int (0 : Int32)) := Arv.set Ar18 qc18 S18 M18 H18 G18 rfl W18 16 rfl (Nat.le_of_ble_eq_true rfl)
  show own_Go p e below _ (T18.setTop (mkF m 109 #[.val (.int p0), .val (.int p1), .val (.int p2), .unset, .unset, .unset, .unset] [(.ref b1)]))
  refine own_st (fun _ k => XS.dup X18.here hx rfl (hb hby at_109) rfl rfl k) ?_
  show own_Go p e below _ (T18.setTop (mkF m 110 #[.val (.int p0), .val (.int p1), .val (.int p2), .unset, .unset, .unset, .unset] [(.ref b1), (.ref b1)]))
  refine own_st (fun _ k => XS.bipush X18.here hx rfl (hb hby at_110) k) ?_
  show own_Go p e below _ (T18.setTop (mkF m 112 #[.val (.int p0), .val (.int p1), .val (.int p2), .unset, .unset, .unset, .unset] [(.int (17 : Int32)), (.ref b1), (.ref b1)]))
  refine own_st (fun _ k => XS.sipush X18.here hx rfl (hb hby at_112) k) ?_
  show own_Go p e below _ (T18.setTop (mkF m 115 #[.val (.int p0), .val (.int p1), .val (.int p2), .unset, .unset, .unset, .unset] [(.int (8191 : Int32)), (.int (17 : Int32)), (.ref b1), (.ref b1)]))
  obtain ⟨cl19, Ar19, qc19, S19, M19, H19, G19⟩ := V_b1
  obtain ⟨T19, h19, X19, e19, W19, st19⟩ := stI X18 hx hZ e18 Ar19 (j := (17 : Int32)) (inb_of S19 ⟨by decide, by decide⟩) (g := (mkF m 115 #[.val (.int p0), .val (.int p1), .val (.int p2), .unset, .unset, .unset, .unset] [(.int (8191 : Int32)), (.int (17 : Int32)), (.ref b1), (.ref b1)])) rfl rfl (hb hby at_115)
  refine own_st st19 ?_
  replace Z0 := Nat.le_trans Z0 (Nat.le_of_eq W19.size.symm)
  replace N0 := Fr.snoc X19 N0 g_b1
  have V_b1 : Arv Z h19 b1 k1 .int (32 : Int32) [(.int (58 : Int32)), (.int (58 : Int32)), (.int (95 : Int32)), (.int (95 : Int32)), (.int (65 : Int32)), (.int (90 : Int32)), (.int (97 : Int32)), (.int (122 : Int32)), (.int (192 : Int32)), (.int (214 : Int32)), (.int (216 : Int32)), (.int (246 : Int32)), (.int (248 : Int32)), (.int (767 : Int32)), (.int (880 : Int32)), (.int (893 : Int32)), (.int (895 : Int32)), (.int (8191 : Int32)), (.int (0 : Int32)), (.int (0 : Int32)), (.int (0 : Int32)), (.int (0 : Int32)), (.int (0 : Int32)), (.int (0 : Int32)), (.int (0 : Int32)), (.int (0 : Int32)), (.int (0 : Int32)), (.int (0 : Int32)), (.int (0 : Int32)), (.int (0 : Int32)), (.int (0 : Int32)), (.int (0 : Int32))] (.int (0 : Int32)) := Arv.set Ar19 qc19 S19 M19 H19 G19 rfl W19 17 rfl (Nat.le_of_ble_eq_true rfl)
  show own_Go p e below _ (T19.setTop (mkF m 116 #[.val (.int p0), .val (.int p1), .val (.int p2), .unset, .unset, .unset, .unset] [(.ref b1)]))
  refine own_st (fun _ k => XS.dup X19.here hx rfl (hb hby at_116) rfl rfl k) ?_
  show own_Go p e below _ (T19.setTop (mkF m 117 #[.val (.int p0), .val (.int p1), .val (.int p2), .unset, .unset, .unset, .unset] [(.ref b1), (.ref b1)]))
  refine own_st (fun _ k => XS.bipush X19.here hx rfl (hb hby at_117) k) ?_
  show own_Go p e below _ (T19.setTop (mkF m 119 #[.val (.int p0), .val (.int p1), .val (.int p2), .unset, .unset, .unset, .unset] [(.int (18 : Int32)), (.ref b1), (.ref b1)]))
  refine own_st (fun _ k => XS.sipush X19.here hx rfl (hb hby at_119) k) ?_
  show own_Go p e below _ (T19.setTop (mkF m 122 #[.val (.int p0), .val (.int p1), .val (.int p2), .unset, .unset, .unset, .unset] [(.int (8204 : Int32)), (.int (18 : Int32)), (.ref b1), (.ref b1)]))
  obtain ⟨cl20, Ar20, qc20, S20, M20, H20, G20⟩ := V_b1
  obtain ⟨T20, h20, X20, e20, W20, st20⟩ := stI X19 hx hZ e19 Ar20 (j := (18 : Int32)) (inb_of S20 ⟨by decide, by decide⟩) (g := (mkF m 122 #[.val (.int p0), .val (.int p1), .val (.int p2), .unset, .unset, .unset, .unset] [(.int (8204 : Int32)), (.int (18 : Int32)), (.ref b1), (.ref b1)])) rfl rfl (hb hby at_122)
  refine own_st st20 ?_
  replace Z0 := Nat.le_trans Z0 (Nat.le_of_eq W20.size.symm)
  replace N0 := Fr.snoc X20 N0 g_b1
  have V_b1 : Arv Z h20 b1 k1 .int (32 : Int32) [(.int (58 : Int32)), (.int (58 : Int32)), (.int (95 : Int32)), (.int (95 : Int32)), (.int (65 : Int32)), (.int (90 : Int32)), (.int (97 : Int32)), (.int (122 : Int32)), (.int (192 : Int32)), (.int (214 : Int32)), (.int (216 : Int32)), (.int (246 : Int32)), (.int (248 : Int32)), (.int (767 : Int32)), (.int (880 : Int32)), (.int (893 : Int32)), (.int (895 : Int32)), (.int (8191 : Int32)), (.int (8204 : Int32)), (.int (0 : Int32)), (.int (0 : Int32)), (.int (0 : Int32)), (.int (0 : Int32)), (.int (0 : Int32)), (.int (0 : Int32)), (.int (0 : Int32)), (.int (0 : Int32)), (.int (0 : Int32)), (.int (0 : Int32)), (.int (0 : Int32)), (.int (0 : Int32)), (.int (0 : Int32))] (.int (0 : Int32)) := Arv.set Ar20 qc20 S20 M20 H20 G20 rfl W20 18 rfl (Nat.le_of_ble_eq_true rfl)
  show own_Go p e below _ (T20.setTop (mkF m 123 #[.val (.int p0), .val (.int p1), .val (.int p2), .unset, .unset, .unset, .unset] [(.ref b1)]))
  refine own_st (fun _ k => XS.dup X20.here hx rfl (hb hby at_123) rfl rfl k) ?_
  show own_Go p e below _ (T20.setTop (mkF m 124 #[.val (.int p0), .val (.int p1), .val (.int p2), .unset, .unset, .unset, .unset] [(.ref b1), (.ref b1)]))
  refine own_st (fun _ k => XS.bipush X20.here hx rfl (hb hby at_124) k) ?_
  show own_Go p e below _ (T20.setTop (mkF m 126 #[.val (.int p0), .val (.int p1), .val (.int p2), .unset, .unset, .unset, .unset] [(.int (19 : Int32)), (.ref b1), (.ref b1)]))
  refine own_st (fun _ k => XS.sipush X20.here hx rfl (hb hby at_126) k) ?_
  show own_Go p e below _ (T20.setTop (mkF m 129 #[.val (.int p0), .val (.int p1), .val (.int p2), .unset, .unset, .unset, .unset] [(.int (8205 : Int32)), (.int (19 : Int32)), (.ref b1), (.ref b1)]))
  obtain ⟨cl21, Ar21, qc21, S21, M21, H21, G21⟩ := V_b1
  obtain ⟨T21, h21, X21, e21, W21, st21⟩ := stI X20 hx hZ e20 Ar21 (j := (19 : Int32)) (inb_of S21 ⟨by decide, by decide⟩) (g := (mkF m 129 #[.val (.int p0), .val (.int p1), .val (.int p2), .unset, .unset, .unset, .unset] [(.int (8205 : Int32)), (.int (19 : Int32)), (.ref b1), (.ref b1)])) rfl rfl (hb hby at_129)
  refine own_st st21 ?_
  replace Z0 := Nat.le_trans Z0 (Nat.le_of_eq W21.size.symm)
  replace N0 := Fr.snoc X21 N0 g_b1
  have V_b1 : Arv Z h21 b1 k1 .int (32 : Int32) [(.int (58 : Int32)), (.int (58 : Int32)), (.int (95 : Int32)), (.int (95 : Int32)), (.int (65 : Int32)), (.int (90 : Int32)), (.int (97 : Int32)), (.int (122 : Int32)), (.int (192 : Int32)), (.int (214 : Int32)), (.int (216 : Int32)), (.int (246 : Int32)), (.int (248 : Int32)), (.int (767 : Int32)), (.int (880 : Int32)), (.int (893 : Int32)), (.int (895 : Int32)), (.int (8191 : Int32)), (.int (8204 : Int32)), (.int (8205 : Int32)), (.int (0 : Int32)), (.int (0 : Int32)), (.int (0 : Int32)), (.int (0 : Int32)), (.int (0 : Int32)), (.int (0 : Int32)), (.int (0 : Int32)), (.int (0 : Int32)), (.int (0 : Int32)), (.int (0 : Int32)), (.int (0 : Int32)), (.int (0 : Int32))] (.int (0 : Int32)) := Arv.set Ar21 qc21 S21 M21 H21 G21 rfl W21 19 rfl (Nat.le_of_ble_eq_true rfl)
  show own_Go p e below _ (T21.setTop (mkF m 130 #[.val (.int p0), .val (.int p1), .val (.int p2), .unset, .unset, .unset, .unset] [(.ref b1)]))
  refine own_st (fun _ k => XS.dup X21.here hx rfl (hb hby at_130) rfl rfl k) ?_
  show own_Go p e below _ (T21.setTop (mkF m 131 #[.val (.int p0), .val (.int p1), .val (.int p2), .unset, .unset, .unset, .unset] [(.ref b1), (.ref b1)]))
  refine own_st (fun _ k => XS.bipush X21.here hx rfl (hb hby at_131) k) ?_
  show own_Go p e below _ (T21.setTop (mkF m 133 #[.val (.int p0), .val (.int p1), .val (.int p2), .unset, .unset, .unset, .unset] [(.int (20 : Int32)), (.ref b1), (.ref b1)]))
  refine own_st (fun _ k => XS.sipush X21.here hx rfl (hb hby at_133) k) ?_
  show own_Go p e below _ (T21.setTop (mkF m 136 #[.val (.int p0), .val (.int p1), .val (.int p2), .unset, .unset, .unset, .unset] [(.int (8304 : Int32)), (.int (20 : Int32)), (.ref b1), (.ref b1)]))
  obtain ⟨cl22, Ar22, qc22, S22, M22, H22, G22⟩ := V_b1
  obtain ⟨T22, h22, X22, e22, W22, st22⟩ := stI X21 hx hZ e21 Ar22 (j := (20 : Int32)) (inb_of S22 ⟨by decide, by decide⟩) (g := (mkF m 136 #[.val (.int p0), .val (.int p1), .val (.int p2), .unset, .unset, .unset, .unset] [(.int (8304 : Int32)), (.int (20 : Int32)), (.ref b1), (.ref b1)])) rfl rfl (hb hby at_136)
  refine own_st st22 ?_
  replace Z0 := Nat.le_trans Z0 (Nat.le_of_eq W22.size.symm)
  replace N0 := Fr.snoc X22 N0 g_b1
  have V_b1 : Arv Z h22 b1 k1 .int (32 : Int32) [(.int (58 : Int32)), (.int (58 : Int32)), (.int (95 : Int32)), (.int (95 : Int32)), (.int (65 : Int32)), (.int (90 : Int32)), (.int (97 : Int32)), (.int (122 : Int32)), (.int (192 : Int32)), (.int (214 : Int32)), (.int (216 : Int32)), (.int (246 : Int32)), (.int (248 : Int32)), (.int (767 : Int32)), (.int (880 : Int32)), (.int (893 : Int32)), (.int (895 : Int32)), (.int (8191 : Int32)), (.int (8204 : Int32)), (.int (8205 : Int32)), (.int (8304 : Int32)), (.int (0 : Int32)), (.int (0 : Int32)), (.int (0 : Int32)), (.int (0 : Int32)), (.int (0 : Int32)), (.int (0 : Int32)), (.int (0 : Int32)), (.int (0 : Int32)), (.int (0 : Int32)), (.int (0 : Int32)), (.int (0 : Int32))] (.int (0 : Int32)) := Arv.set Ar22 qc22 S22 M22 H22 G22 rfl W22 20 rfl (Nat.le_of_ble_eq_true rfl)
  show own_Go p e below _ (T22.setTop (mkF m 137 #[.val (.int p0), .val (.int p1), .val (.int p2), .unset, .unset, .unset, .unset] [(.ref b1)]))
  refine own_st (fun _ k => XS.dup X22.here hx rfl (hb hby at_137) rfl rfl k) ?_
  show own_Go p e below _ (T22.setTop (mkF m 138 #[.val (.int p0), .val (.int p1), .val (.int p2), .unset, .unset, .unset, .unset] [(.ref b1), (.ref b1)]))
  refine own_st (fun _ k => XS.bipush X22.here hx rfl (hb hby at_138) k) ?_
  show own_Go p e below _ (T22.setTop (mkF m 140 #[.val (.int p0), .val (.int p1), .val (.int p2), .unset, .unset, .unset, .unset] [(.int (21 : Int32)), (.ref b1), (.ref b1)]))
  refine own_st (fun _ k => XS.sipush X22.here hx rfl (hb hby at_140) k) ?_
  show own_Go p e below _ (T22.setTop (mkF m 143 #[.val (.int p0), .val (.int p1), .val (.int p2), .unset, .unset, .unset, .unset] [(.int (8591 : Int32)), (.int (21 : Int32)), (.ref b1), (.ref b1)]))
  obtain ⟨cl23, Ar23, qc23, S23, M23, H23, G23⟩ := V_b1
  obtain ⟨T23, h23, X23, e23, W23, st23⟩ := stI X22 hx hZ e22 Ar23 (j := (21 : Int32)) (inb_of S23 ⟨by decide, by decide⟩) (g := (mkF m 143 #[.val (.int p0), .val (.int p1), .val (.int p2), .unset, .unset, .unset, .unset] [(.int (8591 : Int32)), (.int (21 : Int32)), (.ref b1), (.ref b1)])) rfl rfl (hb hby at_143)
  refine own_st st23 ?_
  replace Z0 := Nat.le_trans Z0 (Nat.le_of_eq W23.size.symm)
  replace N0 := Fr.snoc X23 N0 g_b1
  have V_b1 : Arv Z h23 b1 k1 .int (32 : Int32) [(.int (58 : Int32)), (.int (58 : Int32)), (.int (95 : Int32)), (.int (95 : Int32)), (.int (65 : Int32)), (.int (90 : Int32)), (.int (97 : Int32)), (.int (122 : Int32)), (.int (192 : Int32)), (.int (214 : Int32)), (.int (216 : Int32)), (.int (246 : Int32)), (.int (248 : Int32)), (.int (767 : Int32)), (.int (880 : Int32)), (.int (893 : Int32)), (.int (895 : Int32)), (.int (8191 : Int32)), (.int (8204 : Int32)), (.int (8205 : Int32)), (.int (8304 : Int32)), (.int (8591 : Int32)), (.int (0 : Int32)), (.int (0 : Int32)), (.int (0 : Int32)), (.int (0 : Int32)), (.int (0 : Int32)), (.int (0 : Int32)), (.int (0 : Int32)), (.int (0 : Int32)), (.int (0 : Int32)), (.int (0 : Int32))] (.int (0 : Int32)) := Arv.set Ar23 qc23 S23 M23 H23 G23 rfl W23 21 rfl (Nat.le_of_ble_eq_true rfl)
  show own_Go p e below _ (T23.setTop (mkF m 144 #[.val (.int p0), .val (.int p1), .val (.int p2), .unset, .unset, .unset, .unset] [(.ref b1)]))
  refine own_st (fun _ k => XS.dup X23.here hx rfl (hb hby at_144) rfl rfl k) ?_
  show own_Go p e below _ (T23.setTop (mkF m 145 #[.val (.int p0), .val (.int p1), .val (.int p2), .unset, .unset, .unset, .unset] [(.ref b1), (.ref b1)]))
  refine own_st (fun _ k => XS.bipush X23.here hx rfl (hb hby at_145) k) ?_
  show own_Go p e below _ (T23.setTop (mkF m 147 #[.val (.int p0), .val (.int p1), .val (.int p2), .unset, .unset, .unset, .unset] [(.int (22 : Int32)), (.ref b1), (.ref b1)]))
  refine own_st (fun _ k => XS.sipush X23.here hx rfl (hb hby at_147) k) ?_
  show own_Go p e below _ (T23.setTop (mkF m 150 #[.val (.int p0), .val (.int p1), .val (.int p2), .unset, .unset, .unset, .unset] [(.int (11264 : Int32)), (.int (22 : Int32)), (.ref b1), (.ref b1)]))
  obtain ⟨cl24, Ar24, qc24, S24, M24, H24, G24⟩ := V_b1
  obtain ⟨T24, h24, X24, e24, W24, st24⟩ := stI X23 hx hZ e23 Ar24 (j := (22 : Int32)) (inb_of S24 ⟨by decide, by decide⟩) (g := (mkF m 150 #[.val (.int p0), .val (.int p1), .val (.int p2), .unset, .unset, .unset, .unset] [(.int (11264 : Int32)), (.int (22 : Int32)), (.ref b1), (.ref b1)])) rfl rfl (hb hby at_150)
  refine own_st st24 ?_
  replace Z0 := Nat.le_trans Z0 (Nat.le_of_eq W24.size.symm)
  replace N0 := Fr.snoc X24 N0 g_b1
  have V_b1 : Arv Z h24 b1 k1 .int (32 : Int32) [(.int (58 : Int32)), (.int (58 : Int32)), (.int (95 : Int32)), (.int (95 : Int32)), (.int (65 : Int32)), (.int (90 : Int32)), (.int (97 : Int32)), (.int (122 : Int32)), (.int (192 : Int32)), (.int (214 : Int32)), (.int (216 : Int32)), (.int (246 : Int32)), (.int (248 : Int32)), (.int (767 : Int32)), (.int (880 : Int32)), (.int (893 : Int32)), (.int (895 : Int32)), (.int (8191 : Int32)), (.int (8204 : Int32)), (.int (8205 : Int32)), (.int (8304 : Int32)), (.int (8591 : Int32)), (.int (11264 : Int32)), (.int (0 : Int32)), (.int (0 : Int32)), (.int (0 : Int32)), (.int (0 : Int32)), (.int (0 : Int32)), (.int (0 : Int32)), (.int (0 : Int32)), (.int (0 : Int32)), (.int (0 : Int32))] (.int (0 : Int32)) := Arv.set Ar24 qc24 S24 M24 H24 G24 rfl W24 22 rfl (Nat.le_of_ble_eq_true rfl)
  show own_Go p e below _ (T24.setTop (mkF m 151 #[.val (.int p0), .val (.int p1), .val (.int p2), .unset, .unset, .unset, .unset] [(.ref b1)]))
  refine own_st (fun _ k => XS.dup X24.here hx rfl (hb hby at_151) rfl rfl k) ?_
  show own_Go p e below _ (T24.setTop (mkF m 152 #[.val (.int p0), .val (.int p1), .val (.int p2), .unset, .unset, .unset, .unset] [(.ref b1), (.ref b1)]))
  refine own_st (fun _ k => XS.bipush X24.here hx rfl (hb hby at_152) k) ?_
  show own_Go p e below _ (T24.setTop (mkF m 154 #[.val (.int p0), .val (.int p1), .val (.int p2), .unset, .unset, .unset, .unset] [(.int (23 : Int32)), (.ref b1), (.ref b1)]))
  refine own_st (fun _ k => XS.sipush X24.here hx rfl (hb hby at_154) k) ?_
  show own_Go p e below _ (T24.setTop (mkF m 157 #[.val (.int p0), .val (.int p1), .val (.int p2), .unset, .unset, .unset, .unset] [(.int (12271 : Int32)), (.int (23 : Int32)), (.ref b1), (.ref b1)]))
  obtain ⟨cl25, Ar25, qc25, S25, M25, H25, G25⟩ := V_b1
  obtain ⟨T25, h25, X25, e25, W25, st25⟩ := stI X24 hx hZ e24 Ar25 (j := (23 : Int32)) (inb_of S25 ⟨by decide, by decide⟩) (g := (mkF m 157 #[.val (.int p0), .val (.int p1), .val (.int p2), .unset, .unset, .unset, .unset] [(.int (12271 : Int32)), (.int (23 : Int32)), (.ref b1), (.ref b1)])) rfl rfl (hb hby at_157)
  refine own_st st25 ?_
  replace Z0 := Nat.le_trans Z0 (Nat.le_of_eq W25.size.symm)
  replace N0 := Fr.snoc X25 N0 g_b1
  have V_b1 : Arv Z h25 b1 k1 .int (32 : Int32) [(.int (58 : Int32)), (.int (58 : Int32)), (.int (95 : Int32)), (.int (95 : Int32)), (.int (65 : Int32)), (.int (90 : Int32)), (.int (97 : Int32)), (.int (122 : Int32)), (.int (192 : Int32)), (.int (214 : Int32)), (.int (216 : Int32)), (.int (246 : Int32)), (.int (248 : Int32)), (.int (767 : Int32)), (.int (880 : Int32)), (.int (893 : Int32)), (.int (895 : Int32)), (.int (8191 : Int32)), (.int (8204 : Int32)), (.int (8205 : Int32)), (.int (8304 : Int32)), (.int (8591 : Int32)), (.int (11264 : Int32)), (.int (12271 : Int32)), (.int (0 : Int32)), (.int (0 : Int32)), (.int (0 : Int32)), (.int (0 : Int32)), (.int (0 : Int32)), (.int (0 : Int32)), (.int (0 : Int32)), (.int (0 : Int32))] (.int (0 : Int32)) := Arv.set Ar25 qc25 S25 M25 H25 G25 rfl W25 23 rfl (Nat.le_of_ble_eq_true rfl)
  show own_Go p e below _ (T25.setTop (mkF m 158 #[.val (.int p0), .val (.int p1), .val (.int p2), .unset, .unset, .unset, .unset] [(.ref b1)]))
  refine own_st (fun _ k => XS.dup X25.here hx rfl (hb hby at_158) rfl rfl k) ?_
  show own_Go p e below _ (T25.setTop (mkF m 159 #[.val (.int p0), .val (.int p1), .val (.int p2), .unset, .unset, .unset, .unset] [(.ref b1), (.ref b1)]))
  refine own_st (fun _ k => XS.bipush X25.here hx rfl (hb hby at_159) k) ?_
  show own_Go p e below _ (T25.setTop (mkF m 161 #[.val (.int p0), .val (.int p1), .val (.int p2), .unset, .unset, .unset, .unset] [(.int (24 : Int32)), (.ref b1), (.ref b1)]))
  refine own_st (fun _ k => XS.sipush X25.here hx rfl (hb hby at_161) k) ?_
  show own_Go p e below _ (T25.setTop (mkF m 164 #[.val (.int p0), .val (.int p1), .val (.int p2), .unset, .unset, .unset, .unset] [(.int (12289 : Int32)), (.int (24 : Int32)), (.ref b1), (.ref b1)]))
  obtain ⟨cl26, Ar26, qc26, S26, M26, H26, G26⟩ := V_b1
  obtain ⟨T26, h26, X26, e26, W26, st26⟩ := stI X25 hx hZ e25 Ar26 (j := (24 : Int32)) (inb_of S26 ⟨by decide, by decide⟩) (g := (mkF m 164 #[.val (.int p0), .val (.int p1), .val (.int p2), .unset, .unset, .unset, .unset] [(.int (12289 : Int32)), (.int (24 : Int32)), (.ref b1), (.ref b1)])) rfl rfl (hb hby at_164)
  refine own_st st26 ?_
  replace Z0 := Nat.le_trans Z0 (Nat.le_of_eq W26.size.symm)
  replace N0 := Fr.snoc X26 N0 g_b1
  have V_b1 : Arv Z h26 b1 k1 .int (32 : Int32) [(.int (58 : Int32)), (.int (58 : Int32)), (.int (95 : Int32)), (.int (95 : Int32)), (.int (65 : Int32)), (.int (90 : Int32)), (.int (97 : Int32)), (.int (122 : Int32)), (.int (192 : Int32)), (.int (214 : Int32)), (.int (216 : Int32)), (.int (246 : Int32)), (.int (248 : Int32)), (.int (767 : Int32)), (.int (880 : Int32)), (.int (893 : Int32)), (.int (895 : Int32)), (.int (8191 : Int32)), (.int (8204 : Int32)), (.int (8205 : Int32)), (.int (8304 : Int32)), (.int (8591 : Int32)), (.int (11264 : Int32)), (.int (12271 : Int32)), (.int (12289 : Int32)), (.int (0 : Int32)), (.int (0 : Int32)), (.int (0 : Int32)), (.int (0 : Int32)), (.int (0 : Int32)), (.int (0 : Int32)), (.int (0 : Int32))] (.int (0 : Int32)) := Arv.set Ar26 qc26 S26 M26 H26 G26 rfl W26 24 rfl (Nat.le_of_ble_eq_true rfl)
  show own_Go p e below _ (T26.setTop (mkF m 165 #[.val (.int p0), .val (.int p1), .val (.int p2), .unset, .unset, .unset, .unset] [(.ref b1)]))
  refine own_st (fun _ k => XS.dup X26.here hx rfl (hb hby at_165) rfl rfl k) ?_
  show own_Go p e below _ (T26.setTop (mkF m 166 #[.val (.int p0), .val (.int p1), .val (.int p2), .unset, .unset, .unset, .unset] [(.ref b1), (.ref b1)]))
  refine own_st (fun _ k => XS.bipush X26.here hx rfl (hb hby at_166) k) ?_
  show own_Go p e below _ (T26.setTop (mkF m 168 #[.val (.int p0), .val (.int p1), .val (.int p2), .unset, .unset, .unset, .unset] [(.int (25 : Int32)), (.ref b1), (.ref b1)]))
  refine own_st (fun _ k => X26.ldcInt hx hown (mvT hZ (hw _ (List.mem_of_getElem? (i := 1) rfl))) (g := (mkF m 168 #[.val (.int p0), .val (.int p1), .val (.int p2), .unset, .unset, .unset, .unset] [(.int (25 : Int32)), (.ref b1), (.ref b1)])) rfl (hb hby at_168) _ k) ?_
  show own_Go p e below _ (T26.setTop (mkF m 170 #[.val (.int p0), .val (.int p1), .val (.int p2), .unset, .unset, .unset, .unset] [(.int (55295 : Int32)), (.int (25 : Int32)), (.ref b1), (.ref b1)]))
  obtain ⟨cl27, Ar27, qc27, S27, M27, H27, G27⟩ := V_b1
  obtain ⟨T27, h27, X27, e27, W27, st27⟩ := stI X26 hx hZ e26 Ar27 (j := (25 : Int32)) (inb_of S27 ⟨by decide, by decide⟩) (g := (mkF m 170 #[.val (.int p0), .val (.int p1), .val (.int p2), .unset, .unset, .unset, .unset] [(.int (55295 : Int32)), (.int (25 : Int32)), (.ref b1), (.ref b1)])) rfl rfl (hb hby at_170)
  refine own_st st27 ?_
  replace Z0 := Nat.le_trans Z0 (Nat.le_of_eq W27.size.symm)
  replace N0 := Fr.snoc X27 N0 g_b1
  have V_b1 : Arv Z h27 b1 k1 .int (32 : Int32) [(.int (58 : Int32)), (.int (58 : Int32)), (.int (95 : Int32)), (.int (95 : Int32)), (.int (65 : Int32)), (.int (90 : Int32)), (.int (97 : Int32)), (.int (122 : Int32)), (.int (192 : Int32)), (.int (214 : Int32)), (.int (216 : Int32)), (.int (246 : Int32)), (.int (248 : Int32)), (.int (767 : Int32)), (.int (880 : Int32)), (.int (893 : Int32)), (.int (895 : Int32)), (.int (8191 : Int32)), (.int (8204 : Int32)), (.int (8205 : Int32)), (.int (8304 : Int32)), (.int (8591 : Int32)), (.int (11264 : Int32)), (.int (12271 : Int32)), (.int (12289 : Int32)), (.int (55295 : Int32)), (.int (0 : Int32)), (.int (0 : Int32)), (.int (0 : Int32)), (.int (0 : Int32)), (.int (0 : Int32)), (.int (0 : Int32))] (.int (0 : Int32)) := Arv.set Ar27 qc27 S27 M27 H27 G27 rfl W27 25 rfl (Nat.le_of_ble_eq_true rfl)
  show own_Go p e below _ (T27.setTop (mkF m 171 #[.val (.int p0), .val (.int p1), .val (.int p2), .unset, .unset, .unset, .unset] [(.ref b1)]))
  refine own_st (fun _ k => XS.dup X27.here hx rfl (hb hby at_171) rfl rfl k) ?_
  show own_Go p e below _ (T27.setTop (mkF m 172 #[.val (.int p0), .val (.int p1), .val (.int p2), .unset, .unset, .unset, .unset] [(.ref b1), (.ref b1)]))
  refine own_st (fun _ k => XS.bipush X27.here hx rfl (hb hby at_172) k) ?_
  show own_Go p e below _ (T27.setTop (mkF m 174 #[.val (.int p0), .val (.int p1), .val (.int p2), .unset, .unset, .unset, .unset] [(.int (26 : Int32)), (.ref b1), (.ref b1)]))
  refine own_st (fun _ k => X27.ldcInt hx hown (mvT hZ (hw _ (List.mem_of_getElem? (i := 2) rfl))) (g := (mkF m 174 #[.val (.int p0), .val (.int p1), .val (.int p2), .unset, .unset, .unset, .unset] [(.int (26 : Int32)), (.ref b1), (.ref b1)])) rfl (hb hby at_174) _ k) ?_
  show own_Go p e below _ (T27.setTop (mkF m 176 #[.val (.int p0), .val (.int p1), .val (.int p2), .unset, .unset, .unset, .unset] [(.int (63744 : Int32)), (.int (26 : Int32)), (.ref b1), (.ref b1)]))
  obtain ⟨cl28, Ar28, qc28, S28, M28, H28, G28⟩ := V_b1
  obtain ⟨T28, h28, X28, e28, W28, st28⟩ := stI X27 hx hZ e27 Ar28 (j := (26 : Int32)) (inb_of S28 ⟨by decide, by decide⟩) (g := (mkF m 176 #[.val (.int p0), .val (.int p1), .val (.int p2), .unset, .unset, .unset, .unset] [(.int (63744 : Int32)), (.int (26 : Int32)), (.ref b1), (.ref b1)])) rfl rfl (hb hby at_176)
  refine own_st st28 ?_
  replace Z0 := Nat.le_trans Z0 (Nat.le_of_eq W28.size.symm)
  replace N0 := Fr.snoc X28 N0 g_b1
  have V_b1 : Arv Z h28 b1 k1 .int (32 : Int32) [(.int (58 : Int32)), (.int (58 : Int32)), (.int (95 : Int32)), (.int (95 : Int32)), (.int (65 : Int32)), (.int (90 : Int32)), (.int (97 : Int32)), (.int (122 : Int32)), (.int (192 : Int32)), (.int (214 : Int32)), (.int (216 : Int32)), (.int (246 : Int32)), (.int (248 : Int32)), (.int (767 : Int32)), (.int (880 : Int32)), (.int (893 : Int32)), (.int (895 : Int32)), (.int (8191 : Int32)), (.int (8204 : Int32)), (.int (8205 : Int32)), (.int (8304 : Int32)), (.int (8591 : Int32)), (.int (11264 : Int32)), (.int (12271 : Int32)), (.int (12289 : Int32)), (.int (55295 : Int32)), (.int (63744 : Int32)), (.int (0 : Int32)), (.int (0 : Int32)), (.int (0 : Int32)), (.int (0 : Int32)), (.int (0 : Int32))] (.int (0 : Int32)) := Arv.set Ar28 qc28 S28 M28 H28 G28 rfl W28 26 rfl (Nat.le_of_ble_eq_true rfl)
  show own_Go p e below _ (T28.setTop (mkF m 177 #[.val (.int p0), .val (.int p1), .val (.int p2), .unset, .unset, .unset, .unset] [(.ref b1)]))
  refine own_st (fun _ k => XS.dup X28.here hx rfl (hb hby at_177) rfl rfl k) ?_
  show own_Go p e below _ (T28.setTop (mkF m 178 #[.val (.int p0), .val (.int p1), .val (.int p2), .unset, .unset, .unset, .unset] [(.ref b1), (.ref b1)]))
  refine own_st (fun _ k => XS.bipush X28.here hx rfl (hb hby at_178) k) ?_
  show own_Go p e below _ (T28.setTop (mkF m 180 #[.val (.int p0), .val (.int p1), .val (.int p2), .unset, .unset, .unset, .unset] [(.int (27 : Int32)), (.ref b1), (.ref b1)]))
  refine own_st (fun _ k => X28.ldcInt hx hown (mvT hZ (hw _ (List.mem_of_getElem? (i := 3) rfl))) (g := (mkF m 180 #[.val (.int p0), .val (.int p1), .val (.int p2), .unset, .unset, .unset, .unset] [(.int (27 : Int32)), (.ref b1), (.ref b1)])) rfl (hb hby at_180) _ k) ?_
  show own_Go p e below _ (T28.setTop (mkF m 182 #[.val (.int p0), .val (.int p1), .val (.int p2), .unset, .unset, .unset, .unset] [(.int (64975 : Int32)), (.int (27 : Int32)), (.ref b1), (.ref b1)]))
  obtain ⟨cl29, Ar29, qc29, S29, M29, H29, G29⟩ := V_b1
  obtain ⟨T29, h29, X29, e29, W29, st29⟩ := stI X28 hx hZ e28 Ar29 (j := (27 : Int32)) (inb_of S29 ⟨by decide, by decide⟩) (g := (mkF m 182 #[.val (.int p0), .val (.int p1), .val (.int p2), .unset, .unset, .unset, .unset] [(.int (64975 : Int32)), (.int (27 : Int32)), (.ref b1), (.ref b1)])) rfl rfl (hb hby at_182)
  refine own_st st29 ?_
  replace Z0 := Nat.le_trans Z0 (Nat.le_of_eq W29.size.symm)
  replace N0 := Fr.snoc X29 N0 g_b1
  have V_b1 : Arv Z h29 b1 k1 .int (32 : Int32) [(.int (58 : Int32)), (.int (58 : Int32)), (.int (95 : Int32)), (.int (95 : Int32)), (.int (65 : Int32)), (.int (90 : Int32)), (.int (97 : Int32)), (.int (122 : Int32)), (.int (192 : Int32)), (.int (214 : Int32)), (.int (216 : Int32)), (.int (246 : Int32)), (.int (248 : Int32)), (.int (767 : Int32)), (.int (880 : Int32)), (.int (893 : Int32)), (.int (895 : Int32)), (.int (8191 : Int32)), (.int (8204 : Int32)), (.int (8205 : Int32)), (.int (8304 : Int32)), (.int (8591 : Int32)), (.int (11264 : Int32)), (.int (12271 : Int32)), (.int (12289 : Int32)), (.int (55295 : Int32)), (.int (63744 : Int32)), (.int (64975 : Int32)), (.int (0 : Int32)), (.int (0 : Int32)), (.int (0 : Int32)), (.int (0 : Int32))] (.int (0 : Int32)) := Arv.set Ar29 qc29 S29 M29 H29 G29 rfl W29 27 rfl (Nat.le_of_ble_eq_true rfl)
  show own_Go p e below _ (T29.setTop (mkF m 183 #[.val (.int p0), .val (.int p1), .val (.int p2), .unset, .unset, .unset, .unset] [(.ref b1)]))
  refine own_st (fun _ k => XS.dup X29.here hx rfl (hb hby at_183) rfl rfl k) ?_
  show own_Go p e below _ (T29.setTop (mkF m 184 #[.val (.int p0), .val (.int p1), .val (.int p2), .unset, .unset, .unset, .unset] [(.ref b1), (.ref b1)]))
  refine own_st (fun _ k => XS.bipush X29.here hx rfl (hb hby at_184) k) ?_
  show own_Go p e below _ (T29.setTop (mkF m 186 #[.val (.int p0), .val (.int p1), .val (.int p2), .unset, .unset, .unset, .unset] [(.int (28 : Int32)), (.ref b1), (.ref b1)]))
  refine own_st (fun _ k => X29.ldcInt hx hown (mvT hZ (hw _ (List.mem_of_getElem? (i := 4) rfl))) (g := (mkF m 186 #[.val (.int p0), .val (.int p1), .val (.int p2), .unset, .unset, .unset, .unset] [(.int (28 : Int32)), (.ref b1), (.ref b1)])) rfl (hb hby at_186) _ k) ?_
  show own_Go p e below _ (T29.setTop (mkF m 188 #[.val (.int p0), .val (.int p1), .val (.int p2), .unset, .unset, .unset, .unset] [(.int (65008 : Int32)), (.int (28 : Int32)), (.ref b1), (.ref b1)]))
  obtain ⟨cl30, Ar30, qc30, S30, M30, H30, G30⟩ := V_b1
  obtain ⟨T30, h30, X30, e30, W30, st30⟩ := stI X29 hx hZ e29 Ar30 (j := (28 : Int32)) (inb_of S30 ⟨by decide, by decide⟩) (g := (mkF m 188 #[.val (.int p0), .val (.int p1), .val (.int p2), .unset, .unset, .unset, .unset] [(.int (65008 : Int32)), (.int (28 : Int32)), (.ref b1), (.ref b1)])) rfl rfl (hb hby at_188)
  refine own_st st30 ?_
  replace Z0 := Nat.le_trans Z0 (Nat.le_of_eq W30.size.symm)
  replace N0 := Fr.snoc X30 N0 g_b1
  have V_b1 : Arv Z h30 b1 k1 .int (32 : Int32) [(.int (58 : Int32)), (.int (58 : Int32)), (.int (95 : Int32)), (.int (95 : Int32)), (.int (65 : Int32)), (.int (90 : Int32)), (.int (97 : Int32)), (.int (122 : Int32)), (.int (192 : Int32)), (.int (214 : Int32)), (.int (216 : Int32)), (.int (246 : Int32)), (.int (248 : Int32)), (.int (767 : Int32)), (.int (880 : Int32)), (.int (893 : Int32)), (.int (895 : Int32)), (.int (8191 : Int32)), (.int (8204 : Int32)), (.int (8205 : Int32)), (.int (8304 : Int32)), (.int (8591 : Int32)), (.int (11264 : Int32)), (.int (12271 : Int32)), (.int (12289 : Int32)), (.int (55295 : Int32)), (.int (63744 : Int32)), (.int (64975 : Int32)), (.int (65008 : Int32)), (.int (0 : Int32)), (.int (0 : Int32)), (.int (0 : Int32))] (.int (0 : Int32)) := Arv.set Ar30 qc30 S30 M30 H30 G30 rfl W30 28 rfl (Nat.le_of_ble_eq_true rfl)
  show own_Go p e below _ (T30.setTop (mkF m 189 #[.val (.int p0), .val (.int p1), .val (.int p2), .unset, .unset, .unset, .unset] [(.ref b1)]))
  refine own_st (fun _ k => XS.dup X30.here hx rfl (hb hby at_189) rfl rfl k) ?_
  show own_Go p e below _ (T30.setTop (mkF m 190 #[.val (.int p0), .val (.int p1), .val (.int p2), .unset, .unset, .unset, .unset] [(.ref b1), (.ref b1)]))
  refine own_st (fun _ k => XS.bipush X30.here hx rfl (hb hby at_190) k) ?_
  show own_Go p e below _ (T30.setTop (mkF m 192 #[.val (.int p0), .val (.int p1), .val (.int p2), .unset, .unset, .unset, .unset] [(.int (29 : Int32)), (.ref b1), (.ref b1)]))
  refine own_st (fun _ k => X30.ldcInt hx hown (mvT hZ (hw _ (List.mem_of_getElem? (i := 5) rfl))) (g := (mkF m 192 #[.val (.int p0), .val (.int p1), .val (.int p2), .unset, .unset, .unset, .unset] [(.int (29 : Int32)), (.ref b1), (.ref b1)])) rfl (hb hby at_192) _ k) ?_
  show own_Go p e below _ (T30.setTop (mkF m 194 #[.val (.int p0), .val (.int p1), .val (.int p2), .unset, .unset, .unset, .unset] [(.int (65533 : Int32)), (.int (29 : Int32)), (.ref b1), (.ref b1)]))
  obtain ⟨cl31, Ar31, qc31, S31, M31, H31, G31⟩ := V_b1
  obtain ⟨T31, h31, X31, e31, W31, st31⟩ := stI X30 hx hZ e30 Ar31 (j := (29 : Int32)) (inb_of S31 ⟨by decide, by decide⟩) (g := (mkF m 194 #[.val (.int p0), .val (.int p1), .val (.int p2), .unset, .unset, .unset, .unset] [(.int (65533 : Int32)), (.int (29 : Int32)), (.ref b1), (.ref b1)])) rfl rfl (hb hby at_194)
  refine own_st st31 ?_
  replace Z0 := Nat.le_trans Z0 (Nat.le_of_eq W31.size.symm)
  replace N0 := Fr.snoc X31 N0 g_b1
  have V_b1 : Arv Z h31 b1 k1 .int (32 : Int32) [(.int (58 : Int32)), (.int (58 : Int32)), (.int (95 : Int32)), (.int (95 : Int32)), (.int (65 : Int32)), (.int (90 : Int32)), (.int (97 : Int32)), (.int (122 : Int32)), (.int (192 : Int32)), (.int (214 : Int32)), (.int (216 : Int32)), (.int (246 : Int32)), (.int (248 : Int32)), (.int (767 : Int32)), (.int (880 : Int32)), (.int (893 : Int32)), (.int (895 : Int32)), (.int (8191 : Int32)), (.int (8204 : Int32)), (.int (8205 : Int32)), (.int (8304 : Int32)), (.int (8591 : Int32)), (.int (11264 : Int32)), (.int (12271 : Int32)), (.int (12289 : Int32)), (.int (55295 : Int32)), (.int (63744 : Int32)), (.int (64975 : Int32)), (.int (65008 : Int32)), (.int (65533 : Int32)), (.int (0 : Int32)), (.int (0 : Int32))] (.int (0 : Int32)) := Arv.set Ar31 qc31 S31 M31 H31 G31 rfl W31 29 rfl (Nat.le_of_ble_eq_true rfl)
  show own_Go p e below _ (T31.setTop (mkF m 195 #[.val (.int p0), .val (.int p1), .val (.int p2), .unset, .unset, .unset, .unset] [(.ref b1)]))
  refine own_st (fun _ k => XS.dup X31.here hx rfl (hb hby at_195) rfl rfl k) ?_
  show own_Go p e below _ (T31.setTop (mkF m 196 #[.val (.int p0), .val (.int p1), .val (.int p2), .unset, .unset, .unset, .unset] [(.ref b1), (.ref b1)]))
  refine own_st (fun _ k => XS.bipush X31.here hx rfl (hb hby at_196) k) ?_
  show own_Go p e below _ (T31.setTop (mkF m 198 #[.val (.int p0), .val (.int p1), .val (.int p2), .unset, .unset, .unset, .unset] [(.int (30 : Int32)), (.ref b1), (.ref b1)]))
  refine own_st (fun _ k => X31.ldcInt hx hown (mvT hZ (hw _ (List.mem_of_getElem? (i := 6) rfl))) (g := (mkF m 198 #[.val (.int p0), .val (.int p1), .val (.int p2), .unset, .unset, .unset, .unset] [(.int (30 : Int32)), (.ref b1), (.ref b1)])) rfl (hb hby at_198) _ k) ?_
  show own_Go p e below _ (T31.setTop (mkF m 200 #[.val (.int p0), .val (.int p1), .val (.int p2), .unset, .unset, .unset, .unset] [(.int (65536 : Int32)), (.int (30 : Int32)), (.ref b1), (.ref b1)]))
  obtain ⟨cl32, Ar32, qc32, S32, M32, H32, G32⟩ := V_b1
  obtain ⟨T32, h32, X32, e32, W32, st32⟩ := stI X31 hx hZ e31 Ar32 (j := (30 : Int32)) (inb_of S32 ⟨by decide, by decide⟩) (g := (mkF m 200 #[.val (.int p0), .val (.int p1), .val (.int p2), .unset, .unset, .unset, .unset] [(.int (65536 : Int32)), (.int (30 : Int32)), (.ref b1), (.ref b1)])) rfl rfl (hb hby at_200)
  refine own_st st32 ?_
  replace Z0 := Nat.le_trans Z0 (Nat.le_of_eq W32.size.symm)
  replace N0 := Fr.snoc X32 N0 g_b1
  have V_b1 : Arv Z h32 b1 k1 .int (32 : Int32) [(.int (58 : Int32)), (.int (58 : Int32)), (.int (95 : Int32)), (.int (95 : Int32)), (.int (65 : Int32)), (.int (90 : Int32)), (.int (97 : Int32)), (.int (122 : Int32)), (.int (192 : Int32)), (.int (214 : Int32)), (.int (216 : Int32)), (.int (246 : Int32)), (.int (248 : Int32)), (.int (767 : Int32)), (.int (880 : Int32)), (.int (893 : Int32)), (.int (895 : Int32)), (.int (8191 : Int32)), (.int (8204 : Int32)), (.int (8205 : Int32)), (.int (8304 : Int32)), (.int (8591 : Int32)), (.int (11264 : Int32)), (.int (12271 : Int32)), (.int (12289 : Int32)), (.int (55295 : Int32)), (.int (63744 : Int32)), (.int (64975 : Int32)), (.int (65008 : Int32)), (.int (65533 : Int32)), (.int (65536 : Int32)), (.int (0 : Int32))] (.int (0 : Int32)) := Arv.set Ar32 qc32 S32 M32 H32 G32 rfl W32 30 rfl (Nat.le_of_ble_eq_true rfl)
  show own_Go p e below _ (T32.setTop (mkF m 201 #[.val (.int p0), .val (.int p1), .val (.int p2), .unset, .unset, .unset, .unset] [(.ref b1)]))
  refine own_st (fun _ k => XS.dup X32.here hx rfl (hb hby at_201) rfl rfl k) ?_
  show own_Go p e below _ (T32.setTop (mkF m 202 #[.val (.int p0), .val (.int p1), .val (.int p2), .unset, .unset, .unset, .unset] [(.ref b1), (.ref b1)]))
  refine own_st (fun _ k => XS.bipush X32.here hx rfl (hb hby at_202) k) ?_
  show own_Go p e below _ (T32.setTop (mkF m 204 #[.val (.int p0), .val (.int p1), .val (.int p2), .unset, .unset, .unset, .unset] [(.int (31 : Int32)), (.ref b1), (.ref b1)]))
  refine own_st (fun _ k => X32.ldcInt hx hown (mvT hZ (hw _ (List.mem_of_getElem? (i := 7) rfl))) (g := (mkF m 204 #[.val (.int p0), .val (.int p1), .val (.int p2), .unset, .unset, .unset, .unset] [(.int (31 : Int32)), (.ref b1), (.ref b1)])) rfl (hb hby at_204) _ k) ?_
  show own_Go p e below _ (T32.setTop (mkF m 206 #[.val (.int p0), .val (.int p1), .val (.int p2), .unset, .unset, .unset, .unset] [(.int (983039 : Int32)), (.int (31 : Int32)), (.ref b1), (.ref b1)]))
  obtain ⟨cl33, Ar33, qc33, S33, M33, H33, G33⟩ := V_b1
  obtain ⟨T33, h33, X33, e33, W33, st33⟩ := stI X32 hx hZ e32 Ar33 (j := (31 : Int32)) (inb_of S33 ⟨by decide, by decide⟩) (g := (mkF m 206 #[.val (.int p0), .val (.int p1), .val (.int p2), .unset, .unset, .unset, .unset] [(.int (983039 : Int32)), (.int (31 : Int32)), (.ref b1), (.ref b1)])) rfl rfl (hb hby at_206)
  refine own_st st33 ?_
  replace Z0 := Nat.le_trans Z0 (Nat.le_of_eq W33.size.symm)
  replace N0 := Fr.snoc X33 N0 g_b1
  have V_b1 : Arv Z h33 b1 k1 .int (32 : Int32) [(.int (58 : Int32)), (.int (58 : Int32)), (.int (95 : Int32)), (.int (95 : Int32)), (.int (65 : Int32)), (.int (90 : Int32)), (.int (97 : Int32)), (.int (122 : Int32)), (.int (192 : Int32)), (.int (214 : Int32)), (.int (216 : Int32)), (.int (246 : Int32)), (.int (248 : Int32)), (.int (767 : Int32)), (.int (880 : Int32)), (.int (893 : Int32)), (.int (895 : Int32)), (.int (8191 : Int32)), (.int (8204 : Int32)), (.int (8205 : Int32)), (.int (8304 : Int32)), (.int (8591 : Int32)), (.int (11264 : Int32)), (.int (12271 : Int32)), (.int (12289 : Int32)), (.int (55295 : Int32)), (.int (63744 : Int32)), (.int (64975 : Int32)), (.int (65008 : Int32)), (.int (65533 : Int32)), (.int (65536 : Int32)), (.int (983039 : Int32))] (.int (0 : Int32)) := Arv.set Ar33 qc33 S33 M33 H33 G33 rfl W33 31 rfl (Nat.le_of_ble_eq_true rfl)
  show own_Go p e below _ (T33.setTop (mkF m 207 #[.val (.int p0), .val (.int p1), .val (.int p2), .unset, .unset, .unset, .unset] [(.ref b1)]))
  refine own_st (fun _ k => XS.astoreN X33.here hx rfl (hb hby at_207) rfl rfl (l' := #[.val (.int p0), .val (.int p1), .val (.int p2), .val (.ref b1), .unset, .unset, .unset]) rfl k) ?_
  show own_Go p e below _ (T33.setTop (mkF m 208 #[.val (.int p0), .val (.int p1), .val (.int p2), .val (.ref b1), .unset, .unset, .unset] []))
  refine own_st (fun _ k => XS.aloadN X33.here hx rfl (hb hby at_208) rfl rfl k) ?_
  show own_Go p e below _ (T33.setTop (mkF m 209 #[.val (.int p0), .val (.int p1), .val (.int p2), .val (.ref b1), .unset, .unset, .unset] [(.ref b1)]))
  refine own_st (fun _ k => XS.iloadN X33.here hx rfl (hb hby at_209) rfl k) ?_
  show own_Go p e below _ (T33.setTop (mkF m 210 #[.val (.int p0), .val (.int p1), .val (.int p2), .val (.ref b1), .unset, .unset, .unset] [(.int p1), (.ref b1)]))
  refine own_st (fun _ k => XS.bipush X33.here hx rfl (hb hby at_210) k) ?_
  show own_Go p e below _ (T33.setTop (mkF m 212 #[.val (.int p0), .val (.int p1), .val (.int p2), .val (.ref b1), .unset, .unset, .unset] [(.int (31 : Int32)), (.int p1), (.ref b1)]))
  refine own_st (fun _ k => XS.iand X33.here hx rfl (hb hby at_212) rfl k) ?_
  show own_Go p e below _ (T33.setTop (mkF m 213 #[.val (.int p0), .val (.int p1), .val (.int p2), .val (.ref b1), .unset, .unset, .unset] [(.int (p1 &&& (31 : Int32))), (.ref b1)]))
  obtain ⟨cl34, v34, Ar34, hin34, hat34⟩ := own_ldI V_b1 (j := (p1 &&& (31 : Int32))) (own_ix p1)
  refine own_st (fun _ k => X33.iaload hx (j := (p1 &&& (31 : Int32))) (v := (.int v34)) (by rw [e33]; exact Ar34.1) (State.isArrayOf_alike hZ.alike Ar34.2.1) Ar34.2.2 hin34 hat34 (g := (mkF m 213 #[.val (.int p0), .val (.int p1), .val (.int p2), .val (.ref b1), .unset, .unset, .unset] [(.int (p1 &&& (31 : Int32))), (.ref b1)])) rfl rfl (hb hby at_213) _ k) ?_
  show own_Go p e below _ (T33.setTop (mkF m 214 #[.val (.int p0), .val (.int p1), .val (.int p2), .val (.ref b1), .unset, .unset, .unset] [(.int v34)]))
  refine own_st (fun _ k => XS.iloadN X33.here hx rfl (hb hby at_214) rfl k) ?_
  show own_Go p e below _ (T33.setTop (mkF m 215 #[.val (.int p0), .val (.int p1), .val (.int p2), .val (.ref b1), .unset, .unset, .unset] [(.int p2), (.int v34)]))
  refine own_st (fun _ k => XS.iconst X33.here hx rfl (hb hby at_215) k) ?_
  show own_Go p e below _ (T33.setTop (mkF m 216 #[.val (.int p0), .val (.int p1), .val (.int p2), .val (.ref b1), .unset, .unset, .unset] [(.int (2 : Int32)), (.int p2), (.int v34)]))
  refine own_st (fun _ k => iremM X33 hx rfl (hb hby at_216) rfl (by decide) k) ?_
  show own_Go p e below _ (T33.setTop (mkF m 217 #[.val (.int p0), .val (.int p1), .val (.int p2), .val (.ref b1), .unset, .unset, .unset] [(.int (p2 % (2 : Int32))), (.int v34)]))
  refine own_st (fun _ k => XS.iadd X33.here hx rfl (hb hby at_217) rfl k) ?_
  show own_Go p e below _ (T33.setTop (mkF m 218 #[.val (.int p0), .val (.int p1), .val (.int p2), .val (.ref b1), .unset, .unset, .unset] [(.int (v34 + (p2 % (2 : Int32))))]))
  refine own_st (fun _ k => XS.istore X33.here hx rfl (hb hby at_218) rfl (l' := #[.val (.int p0), .val (.int p1), .val (.int p2), .val (.ref b1), .val (.int (v34 + (p2 % (2 : Int32)))), .unset, .unset]) rfl k) ?_
  show own_Go p e below _ (T33.setTop (mkF m 220 #[.val (.int p0), .val (.int p1), .val (.int p2), .val (.ref b1), .val (.int (v34 + (p2 % (2 : Int32)))), .unset, .unset] []))
  refine own_st (fun _ k => XS.iloadN X33.here hx rfl (hb hby at_220) rfl k) ?_
  show own_Go p e below _ (T33.setTop (mkF m 221 #[.val (.int p0), .val (.int p1), .val (.int p2), .val (.ref b1), .val (.int (v34 + (p2 % (2 : Int32)))), .unset, .unset] [(.int p0)]))
  obtain ⟨_, T35, _, X35, ⟨rfl, rfl, e35⟩, st35⟩ := own_callS X33 hx hZ (y := (⟨"com/example/early_sieve/earlysieve/io/XmlCharacters", "isNameStart", "(I)Z"⟩ : MethodName)) (argsL := [(.int p0)]) (rest := []) (W := 0) (g := (mkF m 221 #[.val (.int p0), .val (.int p1), .val (.int p2), .val (.ref b1), .val (.int (v34 + (p2 % (2 : Int32)))), .unset, .unset] [(.int p0)])) (rm1 l Z tA hw p0 h33) hown (hw _ (List.mem_of_getElem? (i := 8) rfl)) (hw _ (List.mem_of_getElem? (i := 9) rfl)) (hw _ (List.mem_of_getElem? (i := 10) rfl)) (hw _ (List.mem_of_getElem? (i := 11) rfl)) (by decide) e33 rfl (by rw [hml]; rfl) pd_0 rfl rfl (by show 2 * 0 + _ ≤ _; exact Nat.le_of_eq rfl) (hb hby at_221) (by decide) (by decide) (by decide) (by decide)
  replace X35 := own_flat X35
  refine own_st st35 ?_
  show own_Go p e below _ (T35.setTop (mkF m 224 #[.val (.int p0), .val (.int p1), .val (.int p2), .val (.ref b1), .val (.int (v34 + (p2 % (2 : Int32)))), .unset, .unset] [(.int (own_a_0 p0))]))
  refine own_st (fun _ k => XS.iloadN X35.here hx rfl (hb hby at_224) rfl k) ?_
  show own_Go p e below _ (T35.setTop (mkF m 225 #[.val (.int p0), .val (.int p1), .val (.int p2), .val (.ref b1), .val (.int (v34 + (p2 % (2 : Int32)))), .unset, .unset] [(.int p0), (.int (own_a_0 p0))]))
  obtain ⟨_, T36, _, X36, ⟨rfl, rfl, e36⟩, st36⟩ := own_callS X35 hx hZ (y := (⟨"com/example/early_sieve/earlysieve/io/XmlCharactersIsNameStartPinLaw", "ref", "(I)Z"⟩ : MethodName)) (argsL := [(.int p0)]) (rest := [(.int (own_a_0 p0))]) (W := 1) (g := (mkF m 225 #[.val (.int p0), .val (.int p1), .val (.int p2), .val (.ref b1), .val (.int (v34 + (p2 % (2 : Int32)))), .unset, .unset] [(.int p0), (.int (own_a_0 p0))])) (rm2 l Z tA hw p0 h33) hown (hw _ (List.mem_of_getElem? (i := 15) rfl)) (hw _ (List.mem_of_getElem? (i := 16) rfl)) (hw _ (List.mem_of_getElem? (i := 17) rfl)) (hw _ (List.mem_of_getElem? (i := 18) rfl)) (by decide) e35 rfl (by rw [hml]; rfl) pd_0 rfl rfl (by show 2 * 0 + _ ≤ _; exact Nat.le_of_eq rfl) (hb hby at_225) (by decide) (by decide) (by decide) (by decide)
  replace X36 := own_flat X36
  refine own_st st36 ?_
  show own_Go p e below _ (T36.setTop (mkF m 228 #[.val (.int p0), .val (.int p1), .val (.int p2), .val (.ref b1), .val (.int (v34 + (p2 % (2 : Int32)))), .unset, .unset] [(.int (own_r_0 p0)), (.int (own_a_0 p0))]))
  refine own_st (fun _ k => XS.icmpNo X36.here hx rfl (hb hby at_228) rfl ((own_i2 _ _ _).trans (own_nyes ((own_law _) : (own_a_0 p0) = (own_r_0 p0)))) k) ?_
  show own_Go p e below _ (T36.setTop (mkF m 231 #[.val (.int p0), .val (.int p1), .val (.int p2), .val (.ref b1), .val (.int (v34 + (p2 % (2 : Int32)))), .unset, .unset] []))
  refine own_st (fun _ k => XS.iconst X36.here hx rfl (hb hby at_231) k) ?_
  show own_Go p e below _ (T36.setTop (mkF m 232 #[.val (.int p0), .val (.int p1), .val (.int p2), .val (.ref b1), .val (.int (v34 + (p2 % (2 : Int32)))), .unset, .unset] [(.int (1 : Int32))]))
  refine own_st (fun _ k => XS.goto X36.here hx rfl (pc0 := 232) (pc' := 236) rfl (hb hby at_232) (by decide) (by decide) k) ?_
  show own_Go p e below _ (T36.setTop (mkF m 236 #[.val (.int p0), .val (.int p1), .val (.int p2), .val (.ref b1), .val (.int (v34 + (p2 % (2 : Int32)))), .unset, .unset] [(.int (1 : Int32))]))
  refine own_st (fun _ k => XS.istore X36.here hx rfl (hb hby at_236) rfl (l' := #[.val (.int p0), .val (.int p1), .val (.int p2), .val (.ref b1), .val (.int (v34 + (p2 % (2 : Int32)))), .val (.int (1 : Int32)), .unset]) rfl k) ?_
  show own_Go p e below _ (T36.setTop (mkF m 238 #[.val (.int p0), .val (.int p1), .val (.int p2), .val (.ref b1), .val (.int (v34 + (p2 % (2 : Int32)))), .val (.int (1 : Int32)), .unset] []))
  refine own_st (fun _ k => XS.iload X36.here hx rfl (hb hby at_238) rfl k) ?_
  show own_Go p e below _ (T36.setTop (mkF m 240 #[.val (.int p0), .val (.int p1), .val (.int p2), .val (.ref b1), .val (.int (v34 + (p2 % (2 : Int32)))), .val (.int (1 : Int32)), .unset] [(.int (v34 + (p2 % (2 : Int32))))]))
  obtain ⟨_, T37, _, X37, ⟨rfl, rfl, e37⟩, st37⟩ := own_callS X36 hx hZ (y := (⟨"com/example/early_sieve/earlysieve/io/XmlCharacters", "isNameStart", "(I)Z"⟩ : MethodName)) (argsL := [(.int (v34 + (p2 % (2 : Int32))))]) (rest := []) (W := 0) (g := (mkF m 240 #[.val (.int p0), .val (.int p1), .val (.int p2), .val (.ref b1), .val (.int (v34 + (p2 % (2 : Int32)))), .val (.int (1 : Int32)), .unset] [(.int (v34 + (p2 % (2 : Int32))))])) (rm1 l Z tA hw (v34 + (p2 % (2 : Int32))) h33) hown (hw _ (List.mem_of_getElem? (i := 8) rfl)) (hw _ (List.mem_of_getElem? (i := 9) rfl)) (hw _ (List.mem_of_getElem? (i := 10) rfl)) (hw _ (List.mem_of_getElem? (i := 11) rfl)) (by decide) e36 rfl (by rw [hml]; rfl) pd_0 rfl rfl (by show 2 * 0 + _ ≤ _; exact Nat.le_of_eq rfl) (hb hby at_240) (by decide) (by decide) (by decide) (by decide)
  replace X37 := own_flat X37
  refine own_st st37 ?_
  show own_Go p e below _ (T37.setTop (mkF m 243 #[.val (.int p0), .val (.int p1), .val (.int p2), .val (.ref b1), .val (.int (v34 + (p2 % (2 : Int32)))), .val (.int (1 : Int32)), .unset] [(.int (own_a_0 (v34 + (p2 % (2 : Int32)))))]))
  refine own_st (fun _ k => XS.iload X37.here hx rfl (hb hby at_243) rfl k) ?_
  show own_Go p e below _ (T37.setTop (mkF m 245 #[.val (.int p0), .val (.int p1), .val (.int p2), .val (.ref b1), .val (.int (v34 + (p2 % (2 : Int32)))), .val (.int (1 : Int32)), .unset] [(.int (v34 + (p2 % (2 : Int32)))), (.int (own_a_0 (v34 + (p2 % (2 : Int32)))))]))
  obtain ⟨_, T38, _, X38, ⟨rfl, rfl, e38⟩, st38⟩ := own_callS X37 hx hZ (y := (⟨"com/example/early_sieve/earlysieve/io/XmlCharactersIsNameStartPinLaw", "ref", "(I)Z"⟩ : MethodName)) (argsL := [(.int (v34 + (p2 % (2 : Int32))))]) (rest := [(.int (own_a_0 (v34 + (p2 % (2 : Int32)))))]) (W := 1) (g := (mkF m 245 #[.val (.int p0), .val (.int p1), .val (.int p2), .val (.ref b1), .val (.int (v34 + (p2 % (2 : Int32)))), .val (.int (1 : Int32)), .unset] [(.int (v34 + (p2 % (2 : Int32)))), (.int (own_a_0 (v34 + (p2 % (2 : Int32)))))])) (rm2 l Z tA hw (v34 + (p2 % (2 : Int32))) h33) hown (hw _ (List.mem_of_getElem? (i := 15) rfl)) (hw _ (List.mem_of_getElem? (i := 16) rfl)) (hw _ (List.mem_of_getElem? (i := 17) rfl)) (hw _ (List.mem_of_getElem? (i := 18) rfl)) (by decide) e37 rfl (by rw [hml]; rfl) pd_0 rfl rfl (by show 2 * 0 + _ ≤ _; exact Nat.le_of_eq rfl) (hb hby at_245) (by decide) (by decide) (by decide) (by decide)
  replace X38 := own_flat X38
  refine own_st st38 ?_
  show own_Go p e below _ (T38.setTop (mkF m 248 #[.val (.int p0), .val (.int p1), .val (.int p2), .val (.ref b1), .val (.int (v34 + (p2 % (2 : Int32)))), .val (.int (1 : Int32)), .unset] [(.int (own_r_0 (v34 + (p2 % (2 : Int32))))), (.int (own_a_0 (v34 + (p2 % (2 : Int32)))))]))
  refine own_st (fun _ k => XS.icmpNo X38.here hx rfl (hb hby at_248) rfl ((own_i2 _ _ _).trans (own_nyes ((own_law _) : (own_a_0 (v34 + (p2 % (2 : Int32)))) = (own_r_0 (v34 + (p2 % (2 : Int32))))))) k) ?_
  show own_Go p e below _ (T38.setTop (mkF m 251 #[.val (.int p0), .val (.int p1), .val (.int p2), .val (.ref b1), .val (.int (v34 + (p2 % (2 : Int32)))), .val (.int (1 : Int32)), .unset] []))
  refine own_st (fun _ k => XS.iconst X38.here hx rfl (hb hby at_251) k) ?_
  show own_Go p e below _ (T38.setTop (mkF m 252 #[.val (.int p0), .val (.int p1), .val (.int p2), .val (.ref b1), .val (.int (v34 + (p2 % (2 : Int32)))), .val (.int (1 : Int32)), .unset] [(.int (1 : Int32))]))
  refine own_st (fun _ k => XS.goto X38.here hx rfl (pc0 := 252) (pc' := 256) rfl (hb hby at_252) (by decide) (by decide) k) ?_
  show own_Go p e below _ (T38.setTop (mkF m 256 #[.val (.int p0), .val (.int p1), .val (.int p2), .val (.ref b1), .val (.int (v34 + (p2 % (2 : Int32)))), .val (.int (1 : Int32)), .unset] [(.int (1 : Int32))]))
  refine own_st (fun _ k => XS.istore X38.here hx rfl (hb hby at_256) rfl (l' := #[.val (.int p0), .val (.int p1), .val (.int p2), .val (.ref b1), .val (.int (v34 + (p2 % (2 : Int32)))), .val (.int (1 : Int32)), .val (.int (1 : Int32))]) rfl k) ?_
  show own_Go p e below _ (T38.setTop (mkF m 258 #[.val (.int p0), .val (.int p1), .val (.int p2), .val (.ref b1), .val (.int (v34 + (p2 % (2 : Int32)))), .val (.int (1 : Int32)), .val (.int (1 : Int32))] []))
  refine own_st (fun _ k => XS.iload X38.here hx rfl (hb hby at_258) rfl k) ?_
  show own_Go p e below _ (T38.setTop (mkF m 260 #[.val (.int p0), .val (.int p1), .val (.int p2), .val (.ref b1), .val (.int (v34 + (p2 % (2 : Int32)))), .val (.int (1 : Int32)), .val (.int (1 : Int32))] [(.int (1 : Int32))]))
  refine own_st (fun _ k => XS.ifNo X38.here hx rfl (hb hby at_260) rfl ((own_i0 _ _).trans (own_no ((by decide) : ¬ ((1 : Int32) = (0 : Int32))))) k) ?_
  show own_Go p e below _ (T38.setTop (mkF m 263 #[.val (.int p0), .val (.int p1), .val (.int p2), .val (.ref b1), .val (.int (v34 + (p2 % (2 : Int32)))), .val (.int (1 : Int32)), .val (.int (1 : Int32))] []))
  refine own_st (fun _ k => XS.iload X38.here hx rfl (hb hby at_263) rfl k) ?_
  show own_Go p e below _ (T38.setTop (mkF m 265 #[.val (.int p0), .val (.int p1), .val (.int p2), .val (.ref b1), .val (.int (v34 + (p2 % (2 : Int32)))), .val (.int (1 : Int32)), .val (.int (1 : Int32))] [(.int (1 : Int32))]))
  refine own_st (fun _ k => XS.ifNo X38.here hx rfl (hb hby at_265) rfl ((own_i0 _ _).trans (own_no ((by decide) : ¬ ((1 : Int32) = (0 : Int32))))) k) ?_
  show own_Go p e below _ (T38.setTop (mkF m 268 #[.val (.int p0), .val (.int p1), .val (.int p2), .val (.ref b1), .val (.int (v34 + (p2 % (2 : Int32)))), .val (.int (1 : Int32)), .val (.int (1 : Int32))] []))
  refine own_st (fun _ k => XS.iconst X38.here hx rfl (hb hby at_268) k) ?_
  show own_Go p e below _ (T38.setTop (mkF m 269 #[.val (.int p0), .val (.int p1), .val (.int p2), .val (.ref b1), .val (.int (v34 + (p2 % (2 : Int32)))), .val (.int (1 : Int32)), .val (.int (1 : Int32))] [(.int (1 : Int32))]))
  refine own_st (fun _ k => XS.goto X38.here hx rfl (pc0 := 269) (pc' := 273) rfl (hb hby at_269) (by decide) (by decide) k) ?_
  show own_Go p e below _ (T38.setTop (mkF m 273 #[.val (.int p0), .val (.int p1), .val (.int p2), .val (.ref b1), .val (.int (v34 + (p2 % (2 : Int32)))), .val (.int (1 : Int32)), .val (.int (1 : Int32))] [(.int (1 : Int32))]))
  exact own_retZ X38 hx hlk hret rfl (hb hby at_273) ⟨rfl, N0⟩ (by decide) (by decide)
set_option maxRecDepth 65536 in
set_option maxHeartbeats 40000000 in
theorem comes_1 {Post : Tables → Env → Array Value → State → Outcome → State → Prop} (hpost : ∀ tb e args s v u, (limb_1_1.after args s (.returned v) u = true ∧ limb_1_2.after args s (.returned v) u = true ∧ True) → FrameEnd s (.returned v) u (Jvm.fieldLocs frame_1_writes args s ++ Jvm.arrayLocs frame_1_arrays args s ++ Jvm.staticLocs frame_1_statics s) 16 128 → Post tb e args s (.returned v) u) :
    ArmFor flags0 classFile x code maxLocals ret World_1 tables_1 room_1 Calls_1 rest_1 Pre_1 Post := by
  intro l hfl _ _ p e ha hc hk s m args below hf hA hF happ hP
  obtain ⟨hcalls, hrest, hpre⟩ := hP
  obtain ⟨-, -, -, hnamed, -, -, -, hat⟩ := (Spec.applies_iff hf).mp happ
  obtain ⟨hg, hn⟩ := and_e (Cond.before_iff.mp (show (Jvm.Cond.and given_1 narrow_1).before args s = true from hpre))
  obtain ⟨g1, g2⟩ := and_e hg
  obtain ⟨g3, g4⟩ := and_e g2
  obtain ⟨g5, g6⟩ := and_e g4
  obtain ⟨w0, w1, w2, rfl⟩ : ∃ w0 w1 w2 : Value, args = #[w0, w1, w2] := by
    have hs : args.size = 3 := by simpa [Cond.value, given_1] using g1
    obtain ⟨L⟩ := args
    match L, hs with
    | [w0, w1, w2], _ => exact ⟨w0, w1, w2, rfl⟩
  have hw := fun d (hd : d ∈ tables_1) => atoms_spec (ws := Jvm.Cond.code x code maxLocals ret :: tables_1) hat d (List.mem_cons_of_mem _ hd)
  obtain ⟨i0, ei0⟩ := is_v g3
  obtain rfl : w0 = (.int i0) := Option.some.inj ei0
  obtain ⟨i1, ei1⟩ := is_v g5
  obtain rfl : w1 = (.int i1) := Option.some.inj ei1
  obtain ⟨i2, ei2⟩ := is_v g6
  obtain rfl : w2 = (.int i2) := Option.some.inj ei2
  obtain ⟨n, o, h1, h2, h3, _, L, rfl, ⟨rfl, N⟩, hq⟩ := rm0 l s _ hw i0 i1 i2 s.heap s.heap.size (Nat.le_refl _) p e ha hc hk s m _ below hf ((Spec.applies_iff_loose hf).mp happ).1 ⟨rfl, State.Warmed39.refl s, rfl⟩ trivial
  refine ⟨n, _, h1, h2, h3, hpost _ _ _ _ _ _ ⟨Cond.after_iff.mpr rfl, Cond.after_iff.mpr (eq_i res_at (Term.int_eval (1)) rfl), trivial⟩ ⟨hq.1, hq.2.1, (hq.2.2.sift fun y hy => Or.inr (N y hy)).mono (by decide) (by decide)⟩⟩
theorem main_1_1 : Claimed_1_1 := comes_1 fun _ _ _ _ _ _ h hF => ⟨h.1, hF⟩
theorem main_1_2 : Claimed_1_2 := comes_1 fun _ _ _ _ _ _ h hF => ⟨h.2.1, hF⟩
end Jvm.Pilot.@@N@@
namespace Jvm.Pilot.@@N@@
open Jvm Jvm.ClassFile Sem Op Lib Jvm.Free Jvm.Stand Jvm.Pilot.@@N@@.Jvm.D
/-! MADE BY PROGRAM (witnessworld.py) out of the Statement's table words and the real class files: 9 classes; the members and pool entries that the words name. The judged class is class 1, her method 2. -/
namespace start1
open Jvm.ClassFile
def u (s : String) : CpInfo := .utf8 (stringToUtf16 s)
/-- a pool by its gaps: so many unusable entries, then the entry; so many at the end -/
def gap : Nat → List CpInfo → List CpInfo
  | 0, r => r
  | n + 1, r => .unusable :: gap n r
def poolList (es : List (Nat × CpInfo)) (last : Nat) : List CpInfo := es.foldr (fun e r => gap e.1 (e.2 :: r)) (gap last [])
def pool (es : List (Nat × CpInfo)) (last : Nat) : Array CpInfo := ⟨poolList es last⟩
def fileOf (pool : Array CpInfo) (this : Nat) (attrs : Array Attribute := #[]) (ms : Array MethodInfo := #[]) (fl : Nat := 33) (sup : Nat := 0) (ifs : Array Nat := #[]) (fds : Array FieldInfo := #[]) : ClassFile where
  minorVersion := 0
  majorVersion := 65
  constantPool := pool
  accessFlags := fl
  thisClass := this
  superClass := sup
  interfaces := ifs
  fields := fds
  methods := ms
  attributes := attrs
def plain (name : String) (sup : Option ClassId) : Class where
  name := name
  kind := .ordinary
  loader := none
  accessFlags := 33
  super := sup
  interfaces := #[]
  cf := none
  fields := #[]
  methods := #[]
  instanceTypes := #[]
  staticTypes := #[]
  resolved := #[]
  callSites := []
  init := .initialized
  statics := none
  mirror := none

def pool0 : Array CpInfo := pool [(5, u "<init>"), (0, u "()V"), (1, .class_ 10), (1, u "java/lang/Object")] 113

def k0m0 : Method := { name := "<init>", desc := "()V", sig := { parameters := [], returnType := none }, accessFlags := 1, code := none }
/-- java/lang/Object -/
def k0 : Class := { plain "java/lang/Object" none with
  accessFlags := 33
  interfaces := #[]
  cf := some (fileOf pool0 8 #[] #[{ accessFlags := 1, nameIndex := 5, descriptorIndex := 6, attributes := #[] }] 33 0 #[] #[])
  fields := #[]
  methods := #[k0m0]
  instanceTypes := #[]
  staticTypes := #[]
  resolved := Array.replicate 124 none
  statics := none }

def pool1 : Array CpInfo := pool [(2, .class_ 4), (1, u "java/lang/Object"), (0, u "<init>"), (0, u "()V"), (0, .integer 983039), (0, .integer 65536), (0, .integer 55296), (0, .integer 63744), (0, .integer 64976), (0, .integer 65007), (0, .integer 65533), (0, .integer 55295), (0, .integer 64975), (0, .integer 65008), (0, .methodref 18 19), (0, .class_ 20), (0, .nameAndType 21 22), (0, u "com/example/early_sieve/earlysieve/io/XmlCharacters"), (0, u "isNameStart"), (0, u "(I)Z"), (0, .methodref 24 25), (0, .class_ 26), (0, .nameAndType 27 22), (0, u "com/example/early_sieve/earlysieve/io/XmlCharactersIsNameStartPinLaw"), (0, u "ref"), (3, u "law"), (0, u "(III)Z")] 4

def k1m0 : Method := { name := "<init>", desc := "()V", sig := { parameters := [], returnType := none }, accessFlags := 2, code := none }
def k1c1 : Code := { maxStack := 2, maxLocals := 1, code := method_2_code, exceptionTable := #[], attributes := #[] }
def k1m1 : Method := { name := "ref", desc := "(I)Z", sig := { parameters := [.int], returnType := some .boolean }, accessFlags := 10, code := some k1c1 }
def k1c2 : Code := { maxStack := 4, maxLocals := 7, code := code, exceptionTable := #[], attributes := #[] }
def k1m2 : Method := { name := "law", desc := "(III)Z", sig := { parameters := [.int, .int, .int], returnType := some .boolean }, accessFlags := 9, code := some k1c2 }
/-- com/example/early_sieve/earlysieve/io/XmlCharactersIsNameStartPinLaw -/
def k1 : Class := { plain "com/example/early_sieve/earlysieve/io/XmlCharactersIsNameStartPinLaw" (some 0) with
  accessFlags := 49
  interfaces := #[]
  cf := some (fileOf pool1 24 #[] #[{ accessFlags := 2, nameIndex := 5, descriptorIndex := 6, attributes := #[] }, { accessFlags := 10, nameIndex := 27, descriptorIndex := 22, attributes := #[] }, { accessFlags := 9, nameIndex := 31, descriptorIndex := 32, attributes := #[] }] 49 2 #[] #[])
  fields := #[]
  methods := #[k1m0, k1m1, k1m2]
  instanceTypes := #[]
  staticTypes := #[]
  resolved := Array.replicate 37 none
  statics := none }

def pool2 : Array CpInfo := pool [(2, .class_ 4), (1, u "java/lang/Object"), (0, u "<init>"), (0, u "()V"), (0, .integer 55295), (1, .integer 65533), (0, .integer 65536), (15, .integer 63744), (0, .integer 64975), (0, .integer 65008), (0, .integer 983039), (1, .class_ 33), (1, u "com/example/early_sieve/earlysieve/io/XmlCharacters"), (0, u "isNameStart"), (0, u "(I)Z"), (6, u "REFERENCE_NOT_ALLOWED"), (0, u "Ljava/lang/String;")] 14

def k2m0 : Method := { name := "<init>", desc := "()V", sig := { parameters := [], returnType := none }, accessFlags := 2, code := none }
def k2c1 : Code := { maxStack := 2, maxLocals := 1, code := prog_34_method_5_code, exceptionTable := #[], attributes := #[] }
def k2m1 : Method := { name := "isNameStart", desc := "(I)Z", sig := { parameters := [.int], returnType := some .boolean }, accessFlags := 8, code := some k2c1 }
/-- com/example/early_sieve/earlysieve/io/XmlCharacters -/
def k2 : Class := { plain "com/example/early_sieve/earlysieve/io/XmlCharacters" (some 0) with
  accessFlags := 48
  interfaces := #[]
  cf := some (fileOf pool2 31 #[] #[{ accessFlags := 2, nameIndex := 5, descriptorIndex := 6, attributes := #[] }, { accessFlags := 8, nameIndex := 34, descriptorIndex := 35, attributes := #[] }] 48 2 #[] #[{ accessFlags := 24, nameIndex := 42, descriptorIndex := 43, attributes := #[] }])
  fields := #[{ name := "REFERENCE_NOT_ALLOWED", type := (.object "java/lang/String"), accessFlags := 24, slot := 0, constantValue := 0 }]
  methods := #[k2m0, k2m1]
  instanceTypes := #[]
  staticTypes := #[(.object "java/lang/String")]
  resolved := Array.replicate 58 none
  statics := none }

def pool3 : Array CpInfo := pool [(1, u "java/lang/Cloneable"), (0, .class_ 1), (0, u "java/lang/Object"), (0, .class_ 3)] 3

/-- java/lang/Cloneable -/
def k3 : Class := { plain "java/lang/Cloneable" (some 0) with
  accessFlags := 1537
  interfaces := #[]
  cf := some (fileOf pool3 2 #[] #[] 1537 4 #[] #[])
  fields := #[]
  methods := #[]
  instanceTypes := #[]
  staticTypes := #[]
  resolved := Array.replicate 8 none
  statics := none }

def pool4 : Array CpInfo := pool [(1, u "java/io/Serializable"), (0, .class_ 1), (0, u "java/lang/Object"), (0, .class_ 3)] 3

/-- java/io/Serializable -/
def k4 : Class := { plain "java/io/Serializable" (some 0) with
  accessFlags := 1537
  interfaces := #[]
  cf := some (fileOf pool4 2 #[] #[] 1537 4 #[] #[])
  fields := #[]
  methods := #[]
  instanceTypes := #[]
  staticTypes := #[]
  resolved := Array.replicate 8 none
  statics := none }

/-- the primitive byte -/
def k5 : Class := { plain "byte" none with kind := .primitive 'B', accessFlags := 0x411 }
/-- [B -/
def k6 : Class := { plain "[B" (some 0) with kind := .array 5 .byte, interfaces := #[3, 4], accessFlags := 1041 }

/-- the primitive int -/
def k7 : Class := { plain "int" none with kind := .primitive 'I', accessFlags := 0x411 }
/-- [I -/
def k8 : Class := { plain "[I" (some 0) with kind := .array 7 .int, interfaces := #[3, 4], accessFlags := 1041 }

def heap : Heap := #[]
def classes : Array Class := #[k0, k1, k2, k3, k4, k5, k6, k7, k8]
def interned : List (Array UInt16 × Addr) := []
def slotsUsed : Nat := 0
def theMethod : MethodId := ⟨1, 2⟩
def args0 : Array Value := #[.int 5, .int 3, .int 8]
def aboutOver (below : List Frame) : State where
  vm := { classes := classes, interned := interned.toArray }
  heap := heap
  slotsUsed := slotsUsed
  threads := #[{ frames := .invoking theMethod args0 :: below }]
def below0 : List Frame := [.native { method := ⟨0, 0⟩, args := #[] }]
def about1 : State := aboutOver below0
def p0 : Program := .bare "" "" ""
def e0 : Env := launch0.env 0 0 0
theorem w_frames : about1.frames = Frame.invoking theMethod args0 :: below0 := rfl
set_option maxRecDepth 65536 in
theorem w_args : argsFit about1.vm theMethod args0 = true := by decide +kernel
set_option maxRecDepth 65536 in
theorem w_heap : heapFits about1 = true := by decide +kernel
set_option maxRecDepth 65536 in
theorem w_runnable : about1.curStatus? = some .runnable := by decide +kernel
set_option maxRecDepth 65536 in
theorem w_alone : about1.alone = true := by decide +kernel
set_option maxRecDepth 65536 in
theorem w_named : about1.methodNamed? x = some theMethod := by decide +kernel
set_option maxRecDepth 65536 in
theorem w_hears : about1.hears theMethod below0 = true := by decide +kernel
set_option maxRecDepth 65536 in
theorem w_ripe : about1.ripe theMethod args0 below0 = true := by decide +kernel
theorem w_running : about1.status = .running := rfl
set_option maxRecDepth 65536 in
theorem w_room : about1.hasRoom e0.platform room_1 = true :=
  launch0.hasRoom_least _ room_1 (by decide +kernel) (by decide +kernel) (by decide +kernel) (by decide +kernel) (by decide +kernel) (by decide +kernel)
theorem allAtoms_all (ts : List Jvm.Cond) (a : Array Jvm.Value) (st : Jvm.State) : (allAtoms ts).before a st = ts.all (fun c => c.before a st) := by
  induction ts with
  | nil => rfl
  | cons c t ih =>
    show (Jvm.Cond.and c (allAtoms t)).before a st = _
    rw [Jvm.Cond.before_and, ih, List.all_cons]
def words1 : List Jvm.Cond := Jvm.Cond.code x code maxLocals ret :: tables_1
/-- a 'code' word, met by the world's own term for the bytes: nothing is compared byte by byte -/
theorem code_word {y : MethodName} {bytes : ByteArray} {mx : Nat} {rt : Option FieldType} {a : Array Value} {s : State} {m : MethodId} {meth : Method} {c : Code} (h1 : s.methodNamed? y = some m) (h2 : s.vm.method? m = some meth) (h3 : meth.code = some c) (h4 : c.code = bytes)
    (h5 : (c.maxLocals == mx && c.exceptionTable.isEmpty && decide (c.maxStack ≤ mostOperands) && decide (meth.sig.returnType = rt) && !meth.locks && decide (parseMethodDescriptor y.desc = some meth.sig)) = true) : (Jvm.Cond.code y bytes mx rt).before a s = true := by
  simp only [Bool.and_eq_true, beq_iff_eq, Bool.not_eq_true', decide_eq_true_eq] at h5
  obtain ⟨⟨⟨⟨⟨g1, g2⟩, g3⟩, g4⟩, g5⟩, g6⟩ := h5
  simp [Cond.before, Cond.holds, Cond.value, h1, h2, h3, h4, g1, g2, g3, g4, g5, g6]
def isCode : Jvm.Cond → Bool
  | .code _ _ _ _ => true
  | _ => false
theorem all_split {L : List Jvm.Cond} {P : Jvm.Cond → Bool} (h1 : L.all (fun c => isCode c || P c) = true) (h2 : ∀ c ∈ L.filter isCode, P c = true) : L.all P = true := by
  refine List.all_eq_true.mpr fun c hc => ?_
  have h := List.all_eq_true.mp h1 c hc
  rcases Bool.eq_false_or_eq_true (isCode c) with hi | hi
  · exact h2 c (List.mem_filter.mpr ⟨hc, hi⟩)
  · simpa [hi] using h
set_option maxRecDepth 65536 in
theorem w_c0 : (Jvm.Cond.code x code maxLocals ret).before args0 about1 = true := code_word (m := ⟨1, 2⟩) (meth := k1m2) (c := k1c2) (by decide +kernel) rfl rfl rfl (by decide +kernel)
set_option maxRecDepth 65536 in
theorem w_c1 : (Jvm.Cond.code ({ cls := "com/example/early_sieve/earlysieve/io/XmlCharacters", name := "isNameStart", desc := "(I)Z" } : Jvm.MethodName) prog_34_method_5_code (1 : Nat) (Option.some Jvm.ClassFile.FieldType.boolean)).before args0 about1 = true := code_word (m := ⟨2, 1⟩) (meth := k2m1) (c := k2c1) (by decide +kernel) rfl rfl rfl (by decide +kernel)
set_option maxRecDepth 65536 in
theorem w_c2 : (Jvm.Cond.code ({ cls := "com/example/early_sieve/earlysieve/io/XmlCharactersIsNameStartPinLaw", name := "ref", desc := "(I)Z" } : Jvm.MethodName) method_2_code (1 : Nat) (Option.some Jvm.ClassFile.FieldType.boolean)).before args0 about1 = true := code_word (m := ⟨1, 1⟩) (meth := k1m1) (c := k1c1) (by decide +kernel) rfl rfl rfl (by decide +kernel)
def codes1 : List Jvm.Cond := [Jvm.Cond.code x code maxLocals ret, Jvm.Cond.code ({ cls := "com/example/early_sieve/earlysieve/io/XmlCharacters", name := "isNameStart", desc := "(I)Z" } : Jvm.MethodName) prog_34_method_5_code (1 : Nat) (Option.some Jvm.ClassFile.FieldType.boolean), Jvm.Cond.code ({ cls := "com/example/early_sieve/earlysieve/io/XmlCharactersIsNameStartPinLaw", name := "ref", desc := "(I)Z" } : Jvm.MethodName) method_2_code (1 : Nat) (Option.some Jvm.ClassFile.FieldType.boolean)]
set_option maxRecDepth 65536 in
theorem codes_eq : words1.filter isCode = codes1 := rfl
theorem w_codes : ∀ c ∈ words1.filter isCode, c.before args0 about1 = true := by
  rw [codes_eq]
  intro c hc
  simp only [codes1, List.mem_cons, List.not_mem_nil, or_false] at hc
  rcases hc with rfl | rfl | rfl
  · exact w_c0
  · exact w_c1
  · exact w_c2
set_option maxRecDepth 65536 in
theorem w_t1 : (words1.take 24).all (fun c => isCode c || c.before args0 about1) = true := by decide +kernel
set_option maxRecDepth 65536 in
theorem w_t2 : (words1.drop 24).all (fun c => isCode c || c.before args0 about1) = true := by decide +kernel
theorem w_tables : (allAtoms (Jvm.Cond.code x code maxLocals ret :: tables_1)).before args0 about1 = true := by
  rw [allAtoms_all]
  show words1.all (fun c => c.before args0 about1) = true
  refine all_split ?_ w_codes
  rw [← List.take_append_drop 24 words1, List.all_append, w_t1, w_t2]
  rfl
set_option maxRecDepth 65536 in
theorem w_case : (Jvm.Cond.and given_1 narrow_1).before args0 about1 = true := by decide +kernel
theorem w_applies : (headSpec (Jvm.Cond.code x code maxLocals ret :: tables_1) room_1).applies x e0.platform about1 = true :=
  (Spec.applies_iff w_frames).mpr ⟨w_running, w_runnable, w_alone, w_named, w_hears, w_ripe, w_room, w_tables⟩
theorem atStart : AtStart classFile x code maxLocals ret World_1 tables_1 room_1 Calls_1 rest_1 Pre_1 launch0 p0 e0 about1 theMethod args0 below0 :=
  ⟨lists_1, trivial, launch0.admits_env _ _ _, launch0.least_env, fairChoices_fair.cas, fairChoices_fair.clock, w_frames, w_args, w_heap, w_applies, trivial, trivial, w_case⟩
end start1
theorem witness_1 : WitnessClaimed_1 := ⟨start1.p0, start1.e0, start1.about1, start1.theMethod, start1.args0, start1.below0, start1.atStart⟩
end Jvm.Pilot.@@N@@
