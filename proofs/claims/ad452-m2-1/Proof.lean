import JvmDerived
import JvmDerived.Pilot.@@N@@Statement
import JvmDerived.Pilot.@@N@@Code
set_option linter.unusedVariables false
set_option linter.unusedSimpArgs false
@@BLOCK:NumsL.lean.txt@@
namespace Jvm.Pilot.@@N@@
open Jvm Jvm.ClassFile Sem Op Lib Jvm.Free Jvm.Stand Jvm.LawKit Jvm.RoadKit Bundle Jvm.Pilot.@@N@@.Jvm.D
def own_Go (p : Program) (e : Env) (below : List Frame) (G : Outcome → State → Prop) (t : State) : Prop :=
  ∃ s₂ o, Steps p.tables e below t s₂ ∧ s₂.status = .running ∧ Ended s₂ below o ∧ G o s₂
def own_G (s : State) (Q : Option Value → Heap → List Loc → Prop) (C S : Nat) (o : Outcome) (U : State) : Prop :=
  ∃ v L, o = .returned v ∧ Q v U.heap L ∧ FrameEnd s o U L C S
def own_Met (l : Launch) (Z : State) (y : MethodName) (bytes : ByteArray) (maxL : Nat) (rt : Option FieldType) (rm : Room) (as : Array Value) (h : Heap) (Q : Option Value → Heap → List Loc → Prop) : Prop :=
  MetFree l y (head1 [Jvm.Cond.code y bytes maxL rt] rm) (fun a U => a = as ∧ Z.Warmed39 U.vm ∧ U.heap = h) (fun _ _ _ _ _ => True) (fun _ U o U' => ∃ v L, o = .returned v ∧ Q v U'.heap L ∧ FrameEnd U o U' L rm.cells rm.slots)
def own_MetL (l : Launch) (Z : State) (as : Array Value) (h : Heap) (Q : Option Value → Heap → List Loc → Prop) : Prop :=
  MetFree l x (head1 (Jvm.Cond.code x code maxLocals ret :: tables_1) room_1) (fun a U => a = as ∧ Z.Warmed39 U.vm ∧ U.heap = h) (fun _ _ _ _ _ => True) (fun _ U o U' => ∃ v L, o = .returned v ∧ Q v U'.heap L ∧ FrameEnd U o U' L room_1.cells room_1.slots)
theorem own_pays {l : Launch} {Z : State} {p : Program} {e : Env} {R : Room} {s : State} {args : Array Value} {below : List Frame} {a0 : Array Value} {h : Heap} {y : MethodName} {bytes : ByteArray} {maxL : Nat} {rt : Option FieldType} {rm : Room} {len W : Nat} {as' : Array Value} {Q : Option Value → Heap → List Loc → Prop}
    (hM : own_Met l Z y bytes maxL rt rm as' h Q) (hZ : Z.Warmed39 s.vm) (wc : (Jvm.Cond.code y bytes maxL rt).before a0 Z = true) (wz : (Jvm.Cond.initialized y.cls).before a0 Z = true) (hf : rm.frames + 1 ≤ R.frames) (hl : W + (maxL + 11) + rm.locals ≤ R.locals) :
    Back l R p e below s args y len W (fun A a => a = as' ∧ A.U.heap = h ∧ A.cells + rm.cells ≤ R.cells ∧ A.slots + rm.slots ≤ R.slots)
      (fun A _ v B => ∃ L, Q v B.U.heap L ∧ B.locs = A.locs ++ L ∧ B.cells = A.cells + rm.cells ∧ B.slots = A.slots + rm.slots) :=
  backOf hM hZ wc wz hf hl
section OwnSteps
variable {p : Program} {l : Launch} {e : Env} {R : Room} {s : State} {m : MethodId} {args : Array Value} {below : List Frame} {meth : Method} {c : Code} {T : State} {locs : List Loc} {cells slots : Nat} {h : Heap} {G : Outcome → State → Prop} {t t' : State} {Q : Option Value → Heap → List Loc → Prop} {C S pc : Nat} {Ls : Array Slot} {rest : List Value}
theorem own_go (k : Steps p.tables e below t t') (r : own_Go p e below G t') : own_Go p e below G t := by
  obtain ⟨s₂, o, h1, h2⟩ := r
  exact ⟨s₂, o, k.trans h1, h2⟩
theorem own_ret (X : Stand p l e R s m args below meth c T locs cells slots) (hx : p.tables.exec = Jvm.exec) (hlk : meth.locks = false) (eT : T.heap = h) {w : Value} {ty : FieldType} {i : Instr} (hret : meth.sig.returnType = some ty) (hn : narrow ty w = w)
    (hi : (i = .ireturn ∧ (ty = .int ∨ ty = .boolean ∨ ty = .byte ∨ ty = .char ∨ ty = .short) ∧ ∃ z, w = .int z) ∨ (i = .lreturn ∧ ty = .long ∧ ∃ z, w = .long z) ∨ (i = .dreturn ∧ ty = .double ∧ ∃ z, w = .double z) ∨ (i = .freturn ∧ ty = .float ∧ ∃ z, w = .float z) ∨ (i = .areturn ∧ ty.isReference = true ∧ w.isRef = true))
    (hd : decode c.code pc = .ok (i, 1)) (hQ : Q (some w) h locs) (hc : cells ≤ C) (hs : slots ≤ S) : own_Go p e below (own_G s Q C S) (T.setTop (mkF m pc Ls (w :: rest))) := by
  obtain ⟨fs, hr, hrun, hended, hW, hsame⟩ := X.leave (v := some w) (fun q => by rw [hret] at q; cases q)
  exact ⟨_, _, retOut X hx hret hn hi hd hr, hrun, hended, _, _, rfl, by show Q _ T.heap _; rw [eT]; exact hQ, ⟨_, rfl⟩, hW, hsame.mono hc hs⟩
theorem own_retI (X : Stand p l e R s m args below meth c T locs cells slots) (hx : p.tables.exec = Jvm.exec) (hlk : meth.locks = false) (eT : T.heap = h) {z : Int32} (hret : meth.sig.returnType = some .int) (hd : decode c.code pc = .ok (.ireturn, 1)) (hQ : Q (some (.int z)) h locs) (hc : cells ≤ C) (hs : slots ≤ S) : own_Go p e below (own_G s Q C S) (T.setTop (mkF m pc Ls (.int z :: rest))) :=
  own_ret X hx hlk eT hret rfl (Or.inl ⟨rfl, Or.inl rfl, z, rfl⟩) hd hQ hc hs
theorem own_retZ (X : Stand p l e R s m args below meth c T locs cells slots) (hx : p.tables.exec = Jvm.exec) (hlk : meth.locks = false) (eT : T.heap = h) {z : Int32} (hret : meth.sig.returnType = some .boolean) (hd : decode c.code pc = .ok (.ireturn, 1)) (hz : z = 0 ∨ z = 1) (hQ : Q (some (.int z)) h locs) (hc : cells ≤ C) (hs : slots ≤ S) : own_Go p e below (own_G s Q C S) (T.setTop (mkF m pc Ls (.int z :: rest))) :=
  own_ret X hx hlk eT hret (by rcases hz with rfl | rfl <;> rfl) (Or.inl ⟨rfl, Or.inr (Or.inl rfl), z, rfl⟩) hd hQ hc hs
theorem own_retJ (X : Stand p l e R s m args below meth c T locs cells slots) (hx : p.tables.exec = Jvm.exec) (hlk : meth.locks = false) (eT : T.heap = h) {z : Int64} (hret : meth.sig.returnType = some .long) (hd : decode c.code pc = .ok (.lreturn, 1)) (hQ : Q (some (.long z)) h locs) (hc : cells ≤ C) (hs : slots ≤ S) : own_Go p e below (own_G s Q C S) (T.setTop (mkF m pc Ls (.long z :: rest))) :=
  own_ret X hx hlk eT hret rfl (Or.inr (Or.inl ⟨rfl, rfl, z, rfl⟩)) hd hQ hc hs
theorem own_retA (X : Stand p l e R s m args below meth c T locs cells slots) (hx : p.tables.exec = Jvm.exec) (hlk : meth.locks = false) (eT : T.heap = h) {a : Addr} {ty : FieldType} (hret : meth.sig.returnType = some ty) (ht : ty.isReference = true) (hd : decode c.code pc = .ok (.areturn, 1)) (hQ : Q (some (.ref a)) h locs) (hc : cells ≤ C) (hs : slots ≤ S) : own_Go p e below (own_G s Q C S) (T.setTop (mkF m pc Ls (.ref a :: rest))) :=
  own_ret X hx hlk eT hret (by cases ty <;> first | rfl | cases ht) (Or.inr (Or.inr (Or.inr (Or.inr ⟨rfl, ht, rfl⟩)))) hd hQ hc hs
theorem own_retV (X : Stand p l e R s m args below meth c T locs cells slots) (hx : p.tables.exec = Jvm.exec) (hlk : meth.locks = false) (eT : T.heap = h) (hret : meth.sig.returnType = none) (hd : decode c.code pc = .ok (.return_, 1)) (hQ : Q none h locs) (hc : cells ≤ C) (hs : slots ≤ S) : own_Go p e below (own_G s Q C S) (T.setTop (mkF m pc Ls [])) := by
  obtain ⟨fs, hr, hrun, hended, hW, hsame⟩ := X.leave (v := none) (fun _ => rfl)
  exact ⟨_, _, X.returnOut hx hret hd hr, hrun, hended, _, _, rfl, by show Q _ T.heap _; rw [eT]; exact hQ, ⟨_, rfl⟩, hW, hsame.mono hc hs⟩
end OwnSteps
def own_b (P : Prop) [Decidable P] : Int32 := if P then 1 else 0
theorem own_b_t {P : Prop} [Decidable P] (h : P) : own_b P = 1 := if_pos h
theorem own_b_f {P : Prop} [Decidable P] (h : ¬ P) : own_b P = 0 := if_neg h
theorem own_b_nz {P : Prop} [Decidable P] (h : P) : ¬ own_b P = 0 := by rw [own_b_t h]; decide
theorem own_b_01 (P : Prop) [Decidable P] : own_b P = 0 ∨ own_b P = 1 := by
  by_cases h : P
  · exact Or.inr (own_b_t h)
  · exact Or.inl (own_b_f h)
theorem own_tltJ {x y : Int64} (h : x < y) : ifCond.holds .lt (lcmpW x y) = true ∧ ifCond.holds .ge (lcmpW x y) = false := by
  have q := tlt (show lcmpW x y < 0 by rw [lcW]; exact (lc_lt x y).mpr h)
  exact ⟨(if0 _ _).trans q.1, (if0 _ _).trans q.2.1⟩
theorem own_fltJ {x y : Int64} (h : ¬ x < y) : ifCond.holds .lt (lcmpW x y) = false ∧ ifCond.holds .ge (lcmpW x y) = true := by
  have q := flt (show ¬ lcmpW x y < 0 by rw [lcW]; exact fun z => h ((lc_lt x y).mp z))
  exact ⟨(if0 _ _).trans q.1, (if0 _ _).trans q.2.1⟩
theorem own_tgtJ {x y : Int64} (h : y < x) : ifCond.holds .gt (lcmpW x y) = true ∧ ifCond.holds .le (lcmpW x y) = false := by
  have q := tlt (show 0 < lcmpW x y by rw [lcW]; exact (lc_gt x y).mpr h)
  exact ⟨(if0 _ _).trans q.2.2.1, (if0 _ _).trans q.2.2.2⟩
theorem own_fgtJ {x y : Int64} (h : ¬ y < x) : ifCond.holds .gt (lcmpW x y) = false ∧ ifCond.holds .le (lcmpW x y) = true := by
  have q := flt (show ¬ 0 < lcmpW x y by rw [lcW]; exact fun z => h ((lc_gt x y).mp z))
  exact ⟨(if0 _ _).trans q.2.2.1, (if0 _ _).trans q.2.2.2⟩
theorem own_teqJ {x y : Int64} (h : x = y) : ifCond.holds .eq (lcmpW x y) = true ∧ ifCond.holds .ne (lcmpW x y) = false := by
  have q := teq (show lcmpW x y = 0 by rw [lcW]; exact (lc_eq x y).mpr h)
  exact ⟨(if0 _ _).trans q.1, (if0 _ _).trans q.2⟩
theorem own_feqJ {x y : Int64} (h : ¬ x = y) : ifCond.holds .eq (lcmpW x y) = false ∧ ifCond.holds .ne (lcmpW x y) = true := by
  have q := feq (show ¬ lcmpW x y = 0 by rw [lcW]; exact fun z => h ((lc_eq x y).mp z))
  exact ⟨(if0 _ _).trans q.1, (if0 _ _).trans q.2⟩
section OwnHeap
variable {p : Program} {l : Launch} {e : Env} {R : Room} {s : State} {m : MethodId} {args : Array Value} {below : List Frame} {meth : Method} {c : Code} {T : State} {locs : List Loc} {cells slots : Nat} {Z : State} {a0 : Array Value} {h : Heap} {a : Addr} {k : ClassId} {n j : Int32} {vs : List Value} {dv : Value} {g : JFrame} {rest : List Value}
theorem own_newP (X : Stand p l e R s m args below meth c T locs cells slots) (hx : p.tables.exec = Jvm.exec) (hZ : Z.Warmed39 s.vm) {aty : ArrayType} (w : (Cond.arrayClass (newarray.typeOf aty)).before a0 Z = true) (eT : T.heap = h) (hg : g.method = m) (hd : decode c.code g.pc = .ok (.newarray aty, 2)) (hs : g.stack = .int n :: rest)
    (hn : ¬ n < 0) {cap : Nat} (hcap : n.toNatClampNeg ≤ cap) (hb : cap * 8 ≤ 536870912) (hc : cells + 1 ≤ R.cells) (hl : slots + cap ≤ R.slots) :
    ∃ T' h' cA a, a = h.size ∧ Stand p l e R s m args below meth c T' locs (cells + 1) (slots + cap) ∧ T'.heap = h' ∧ Ext h h' ∧ Arv Z h' a cA (newarray.typeOf aty) n (List.replicate cap (defaultValue (newarray.typeOf aty))) (defaultValue (newarray.typeOf aty)) ∧
      Steps p.tables e below (T.setTop g) (T'.setTop { g with pc := g.pc + 2, stack := .ref a :: rest }) := by
  obtain ⟨T', h', cA, X', e', E, A, st⟩ := newP X hx hZ w eT hg hd hs hn hcap hb hc hl
  exact ⟨T', h', cA, _, rfl, X', e', E, (Arv.new A hn).pad (pad_rep [] _ cap), st _ (Steps.refl _)⟩
theorem own_newO (X : Stand p l e R s m args below meth c T locs cells slots) (hx : p.tables.exec = Jvm.exec) (hZ : Z.Warmed39 s.vm) {own C : String} {index n : Nat} (hown : s.vm.findClass own = some m.cls) (w : (Cond.classLink own index C).before a0 Z = true) (wi : (Cond.instantiable C n).before a0 Z = true) (wz : (Cond.initialized C).before a0 Z = true) (eT : T.heap = h)
    (hg : g.method = m) (hd : decode c.code g.pc = .ok (.new index, 3)) (hc : cells + 1 ≤ R.cells) (hl : slots + n ≤ R.slots) :
    ∃ T' h' a, a = h.size ∧ Stand p l e R s m args below meth c T' locs (cells + 1) (slots + n) ∧ T'.heap = h' ∧ Ext h h' ∧ Exa Z h' a C ∧ (∀ {O nm d : String} {ty : FieldType}, Laid Z a0 C O nm d → parseFieldDescriptor d = some ty → Fld Z h' a O nm d (defaultValue ty)) ∧
      Steps p.tables e below (T.setTop g) (T'.setTop { g with pc := g.pc + 3, stack := .ref a :: g.stack }) := by
  obtain ⟨T', h', X', e', E, A, D, -, st⟩ := newO X hx hZ hown w wi wz eT hg hd hc hl
  exact ⟨T', h', _, rfl, X', e', E, A, D, st _ (Steps.refl _)⟩
theorem own_stI (X : Stand p l e R s m args below meth c T locs cells slots) (hx : p.tables.exec = Jvm.exec) (hZ : Z.Warmed39 s.vm) (eT : T.heap = h) (F : Arv Z h a k .int n vs dv) (h0 : ¬ j < 0) (h1 : j < n) {x : Int32} (hg : g.method = m) (hs : g.stack = .int x :: .int j :: .ref a :: rest) (hd : decode c.code g.pc = .ok (.iastore, 1)) {i : Nat} (hi : j.toNatClampNeg = i) (hl : i < vs.length) :
    ∃ T' h', Stand p l e R s m args below meth c T' (locs ++ [⟨a, j.toNatClampNeg⟩]) cells slots ∧ T'.heap = h' ∧ Wr h h' a j.toNatClampNeg (.int x) ∧ Arv Z h' a k .int n (vs.set i (.int x)) dv ∧ Steps p.tables e below (T.setTop g) (T'.setTop { g with pc := g.pc + 1, stack := rest }) := by
  obtain ⟨cl, A, q1, S, q3, H, G⟩ := F
  obtain ⟨T', h', X', e', W, st⟩ := stI X hx hZ eT A (inb_of S ⟨h0, h1⟩) hg hs hd
  exact ⟨T', h', X', e', W, Arv.set A q1 S q3 H G rfl W i hi hl, st _ (Steps.refl _)⟩
theorem own_stC (X : Stand p l e R s m args below meth c T locs cells slots) (hx : p.tables.exec = Jvm.exec) (hZ : Z.Warmed39 s.vm) (eT : T.heap = h) (F : Arv Z h a k .char n vs dv) (h0 : ¬ j < 0) (h1 : j < n) {x : Int32} (hg : g.method = m) (hs : g.stack = .int x :: .int j :: .ref a :: rest) (hd : decode c.code g.pc = .ok (.castore, 1)) {i : Nat} (hi : j.toNatClampNeg = i) (hl : i < vs.length) :
    ∃ T' h', Stand p l e R s m args below meth c T' (locs ++ [⟨a, j.toNatClampNeg⟩]) cells slots ∧ T'.heap = h' ∧ Wr h h' a j.toNatClampNeg (.int (nar .char x)) ∧ Arv Z h' a k .char n (vs.set i (.int (nar .char x))) dv ∧ Steps p.tables e below (T.setTop g) (T'.setTop { g with pc := g.pc + 1, stack := rest }) := by
  obtain ⟨cl, A, q1, S, q3, H, G⟩ := F
  obtain ⟨T', h', X', e', W, st⟩ := stC X hx hZ eT A (inb_of S ⟨h0, h1⟩) hg hs hd
  exact ⟨T', h', X', e', W, Arv.set A q1 S q3 H G (fits_nar_char _) W i hi hl, st _ (Steps.refl _)⟩
theorem own_stB (X : Stand p l e R s m args below meth c T locs cells slots) (hx : p.tables.exec = Jvm.exec) (hZ : Z.Warmed39 s.vm) (eT : T.heap = h) (F : Arv Z h a k .byte n vs dv) (h0 : ¬ j < 0) (h1 : j < n) {x : Int32} (hg : g.method = m) (hs : g.stack = .int x :: .int j :: .ref a :: rest) (hd : decode c.code g.pc = .ok (.bastore, 1)) {i : Nat} (hi : j.toNatClampNeg = i) (hl : i < vs.length) :
    ∃ T' h', Stand p l e R s m args below meth c T' (locs ++ [⟨a, j.toNatClampNeg⟩]) cells slots ∧ T'.heap = h' ∧ Wr h h' a j.toNatClampNeg (.int (nar .byte x)) ∧ Arv Z h' a k .byte n (vs.set i (.int (nar .byte x))) dv ∧ Steps p.tables e below (T.setTop g) (T'.setTop { g with pc := g.pc + 1, stack := rest }) := by
  obtain ⟨cl, A, q1, S, q3, H, G⟩ := F
  obtain ⟨T', h', X', e', W, st⟩ := stB X hx hZ eT A (inb_of S ⟨h0, h1⟩) hg hs hd
  exact ⟨T', h', X', e', W, Arv.set A q1 S q3 H G (fits_nar_byte _) W i hi hl, st _ (Steps.refl _)⟩
theorem own_ldI (X : Stand p l e R s m args below meth c T locs cells slots) (hx : p.tables.exec = Jvm.exec) (hZ : Z.Warmed39 s.vm) (eT : T.heap = h) (F : Arv Z h a k .int n vs dv) (h0 : ¬ j < 0) (h1 : j < n) {v : Int32} (hv : vs.getD j.toNatClampNeg dv = .int v) (hg : g.method = m) (hs : g.stack = .int j :: .ref a :: rest) (hd : decode c.code g.pc = .ok (.iaload, 1)) :
    Steps p.tables e below (T.setTop g) (T.setTop { g with pc := g.pc + 1, stack := .int v :: rest }) := by
  obtain ⟨cl, A, q1, S, q3, H, G⟩ := F
  exact X.iaload hx (j := j) (v := .int v) (by rw [eT]; exact A.1) (State.isArrayOf_alike hZ.alike A.2.1) A.2.2 (inb_of S ⟨h0, h1⟩) (H.at (inb_of S ⟨h0, h1⟩) hv) hg hs hd _ (Steps.refl _)
theorem own_ldC (X : Stand p l e R s m args below meth c T locs cells slots) (hx : p.tables.exec = Jvm.exec) (hZ : Z.Warmed39 s.vm) (eT : T.heap = h) (F : Arv Z h a k .char n vs dv) (h0 : ¬ j < 0) (h1 : j < n) {v : Int32} (hv : vs.getD j.toNatClampNeg dv = .int v) (hg : g.method = m) (hs : g.stack = .int j :: .ref a :: rest) (hd : decode c.code g.pc = .ok (.caload, 1)) :
    Steps p.tables e below (T.setTop g) (T.setTop { g with pc := g.pc + 1, stack := .int v :: rest }) := by
  obtain ⟨cl, A, q1, S, q3, H, G⟩ := F
  exact X.caload hx (j := j) (v := .int v) (by rw [eT]; exact A.1) (State.isArrayOf_alike hZ.alike A.2.1) A.2.2 (inb_of S ⟨h0, h1⟩) (H.at (inb_of S ⟨h0, h1⟩) hv) hg hs hd _ (Steps.refl _)
theorem own_ldB (X : Stand p l e R s m args below meth c T locs cells slots) (hx : p.tables.exec = Jvm.exec) (hZ : Z.Warmed39 s.vm) (eT : T.heap = h) (F : Arv Z h a k .byte n vs dv) (h0 : ¬ j < 0) (h1 : j < n) {v : Int32} (hv : vs.getD j.toNatClampNeg dv = .int v) (hg : g.method = m) (hs : g.stack = .int j :: .ref a :: rest) (hd : decode c.code g.pc = .ok (.baload, 1)) :
    Steps p.tables e below (T.setTop g) (T.setTop { g with pc := g.pc + 1, stack := .int v :: rest }) := by
  obtain ⟨cl, A, q1, S, q3, H, G⟩ := F
  exact X.baloadBytes hx (j := j) (v := .int v) (by rw [eT]; exact A.1) (State.isArrayOf_alike hZ.alike A.2.1) A.2.2 (inb_of S ⟨h0, h1⟩) (H.at (inb_of S ⟨h0, h1⟩) hv) hg hs hd _ (Steps.refl _)
theorem own_len {ty : FieldType} (X : Stand p l e R s m args below meth c T locs cells slots) (hx : p.tables.exec = Jvm.exec) (hZ : Z.Warmed39 s.vm) (eT : T.heap = h) (F : Arv Z h a k ty n vs dv) (hg : g.method = m) (hs : g.stack = .ref a :: rest) (hd : decode c.code g.pc = .ok (.arraylength, 1)) :
    Steps p.tables e below (T.setTop g) (T.setTop { g with pc := g.pc + 1, stack := .int n :: rest }) := by
  obtain ⟨cl, A, q1, S, q3, H, G⟩ := F
  have r := X.arraylength hx (by rw [eT]; exact A.1) (State.isArrayOf_alike hZ.alike A.2.1) hg hs hd _ (Steps.refl _)
  rw [len_of S q3] at r
  exact r
theorem own_newPE (X : Stand p l e R s m args below meth c T locs cells slots) (hx : p.tables.exec = Jvm.exec) (hZ : Z.Warmed39 s.vm) {aty : ArrayType} (w : (Cond.arrayClass (newarray.typeOf aty)).before a0 Z = true) (eT : T.heap = h) (hg : g.method = m) (hd : decode c.code g.pc = .ok (.newarray aty, 2)) (hs : g.stack = .int n :: rest)
    (hn : ¬ n < 0) {cap : Nat} (hcap : n.toNatClampNeg ≤ cap) (hb : cap * 8 ≤ 536870912) (hc : cells + 1 ≤ R.cells) (hl : slots + cap ≤ R.slots) {ad : String} (had : "[" ++ (newarray.typeOf aty).toString = ad) :
    ∃ T' h' cA a, a = h.size ∧ Stand p l e R s m args below meth c T' locs (cells + 1) (slots + cap) ∧ T'.heap = h' ∧ Ext h h' ∧ Arv Z h' a cA (newarray.typeOf aty) n (List.replicate cap (defaultValue (newarray.typeOf aty))) (defaultValue (newarray.typeOf aty)) ∧ Exa Z h' a ad ∧
      Steps p.tables e below (T.setTop g) (T'.setTop { g with pc := g.pc + 2, stack := .ref a :: rest }) := by
  obtain ⟨T', h', cA, X', e', E, A, E2, st⟩ := newPE X hx hZ w eT hg hd hs hn hcap hb hc hl had
  exact ⟨T', h', cA, _, rfl, X', e', E, (Arv.new A hn).pad (pad_rep [] _ cap), E2, st _ (Steps.refl _)⟩
theorem own_clone {ty : FieldType} (X : Stand p l e R s m args below meth c T locs cells slots) (hx : p.tables.exec = Jvm.exec) (hZ : Z.Warmed39 s.vm) {own ad : String} {index : Nat} (hown : s.vm.findClass own = some m.cls)
    (w1 : (Cond.methodLink own index ⟨ad, "clone", "()Ljava/lang/Object;"⟩).before a0 Z = true) (w2 : (Cond.sameMethod ad "java/lang/Object" "clone" "()Ljava/lang/Object;").before a0 Z = true) (w3 : (Cond.native ⟨"java/lang/Object", "clone", "()Ljava/lang/Object;"⟩).before a0 Z = true)
    (w4 : (Cond.instanceMethod ⟨"java/lang/Object", "clone", "()Ljava/lang/Object;"⟩).before a0 Z = true) (w5 : (Cond.selects ad ⟨ad, "clone", "()Ljava/lang/Object;"⟩ ⟨"java/lang/Object", "clone", "()Ljava/lang/Object;"⟩).before a0 Z = true) (w6 : (Cond.castable ad "java/lang/Cloneable").before a0 Z = true)
    (eT : T.heap = h) (F : Arv Z h a k ty n vs dv) (E : Exa Z h a ad) (hg : g.method = m) (hsize : g.locals.size = c.maxLocals) (hst : g.stack = .ref a :: rest) (hd : decode c.code g.pc = .ok (.invokevirtual index, 3))
    (hf : 1 ≤ R.frames) {W cap : Nat} (hW : 2 * g.monitorRoom + (rest.map fun v => v.category).sum ≤ W) (hl : W + 14 ≤ R.locals) (hcap : n.toNatClampNeg ≤ cap) (hc : cells + 1 ≤ R.cells) (hsl : slots + cap ≤ R.slots) :
    ∃ T' h' b, b = h.size ∧ Stand p l e R s m args below meth c T' locs (cells + 1) (slots + cap) ∧ T'.heap = h' ∧ Ext h h' ∧ Arv Z h' b k ty n vs dv ∧ Exa Z h' b ad ∧ Steps p.tables e below (T.setTop g) (T'.setTop { g with pc := g.pc + 3, stack := .ref b :: rest }) := by
  obtain ⟨cl, A, q1, S, q3, H, G⟩ := F
  have FC : FitC Z cl := fitC_of A fun i hi v hv => by rw [H i hi] at hv; cases hv; exact G i hi
  obtain ⟨T', h', X', e', ex, A', E', st⟩ := cloneA X hx hZ hown w1 w2 w3 w4 w5 w6 eT A E FC hg hsize hst hd hf hW hl (by rw [S]; exact hcap) hc hsl
  exact ⟨T', h', _, rfl, X', e', ex, ⟨cloneOf cl, A', q1, S, q3, H, G⟩, E', st _ (Steps.refl _)⟩
theorem own_born {h : Heap} {a b : Addr} (q : a < h.size) (r : b = h.size) : a ≠ b := Nat.ne_of_lt (r ▸ q)
end OwnHeap
def own_ok (x : Int64) : Prop := ¬ x < (0 : Int64) ∧ ¬ (4611686018427387903 : Int64) < x
def own_aft (ta ra tb rb : Int64) : Bool := decide (tb < ta) || (decide (ta = tb) && decide (rb < ra))
theorem own_okm (x : Int64) : own_ok (x &&& (4611686018427387903 : Int64)) := by
  have e := Jvm.Kit.i64_mask x 4611686018427387903 (k := 62) (by decide) (by decide)
  have e0 : (0 : Int64).toInt = 0 := by decide
  have e1 : (4611686018427387903 : Int64).toInt = 4611686018427387903 := by decide
  constructor <;> rw [Int64.lt_iff_toInt_lt, e] <;> omega
theorem own_aft_iff (ta ra tb rb : Int64) : own_aft ta ra tb rb = true ↔ (tb.toInt < ta.toInt ∨ (ta.toInt = tb.toInt ∧ rb.toInt < ra.toInt)) := by
  simp [own_aft, Int64.lt_iff_toInt_lt, ← Int64.toInt_inj]
theorem own_tri (ta ra tb rb : Int64) : own_b (own_aft ta ra tb rb = true) + own_b (own_aft tb rb ta ra = true) + own_b (ta = tb ∧ ra = rb) = (1 : Int32) := by
  have h1 := own_aft_iff ta ra tb rb
  have h2 := own_aft_iff tb rb ta ra
  have h3 : (ta = tb ∧ ra = rb) ↔ (ta.toInt = tb.toInt ∧ ra.toInt = rb.toInt) := by simp [← Int64.toInt_inj]
  by_cases c1 : own_aft ta ra tb rb = true
  · rw [own_b_t c1, own_b_f (fun q => by have := h1.mp c1; have := h2.mp q; omega), own_b_f (fun q => by have := h1.mp c1; have := h3.mp q; omega)]; rfl
  · by_cases c2 : own_aft tb rb ta ra = true
    · rw [own_b_f c1, own_b_t c2, own_b_f (fun q => by have := h2.mp c2; have := h3.mp q; omega)]; rfl
    · rw [own_b_f c1, own_b_f c2, own_b_t (h3.mpr (by
        have n1 : ¬ (tb.toInt < ta.toInt ∨ (ta.toInt = tb.toInt ∧ rb.toInt < ra.toInt)) := fun q => c1 (h1.mpr q)
        have n2 : ¬ (ta.toInt < tb.toInt ∨ (tb.toInt = ta.toInt ∧ ra.toInt < rb.toInt)) := fun q => c2 (h2.mpr q)
        omega))]; rfl
theorem own_gt {ta tb : Int64} (ra rb : Int64) (h : tb < ta) : own_aft ta ra tb rb = true := (own_aft_iff _ _ _ _).mpr (Or.inl (Int64.lt_iff_toInt_lt.mp h))
theorem own_tie {ta tb : Int64} (ra rb : Int64) (h : ta = tb) (q : rb < ra) : own_b (own_aft ta ra tb rb = true) = (1 : Int32) := own_b_t ((own_aft_iff _ _ _ _).mpr (Or.inr ⟨by rw [h], Int64.lt_iff_toInt_lt.mp q⟩))
theorem own_tie' {ta tb : Int64} (ra rb : Int64) (h : ta = tb) (q : ¬ rb < ra) : own_b (own_aft ta ra tb rb = true) = (0 : Int32) := own_b_f (fun z => by
  rw [own_aft_iff, h] at z
  rw [Int64.lt_iff_toInt_lt] at q
  omega)
theorem own_trans {ta ra tb rb tc rc : Int64} (h : own_aft ta ra tb rb = true) (q : own_aft tb rb tc rc = true) : own_aft ta ra tc rc = true := by
  rw [own_aft_iff] at *
  omega
theorem own_init0_0 : decode jdk_30_method_1_code 0 = .ok (.aload_n 0, 1) := by decide +kernel
theorem own_init0_1 : decode jdk_30_method_1_code 1 = .ok (.invokespecial 1, 3) := by decide +kernel
theorem own_init0_4 : decode jdk_30_method_1_code 4 = .ok (.return_, 1) := by decide +kernel
theorem own_f1 : plainName "java/lang/Record" = true := by first | (simp [plainName, overriddenIn]; done) | decide +kernel
theorem own_f2 : parseMethodDescriptor "()V" = some ⟨[], none⟩ := by decide +kernel
theorem own_f3 (m : MethodId) (x0 : Addr) : entryFrame m #[(.ref x0)] 1 = mkF m 0 #[.val (.ref x0)] [] := by first | (simp [entryFrame, mkF, argsToLocals, Value.category]; done) | rfl
set_option maxRecDepth 65536 in
set_option maxHeartbeats 40000000 in
theorem rm_rec (l : Launch) (Z : State) (a0 : Array Value) (hw : ∀ d ∈ tables_1, d.before a0 Z = true) (a : Addr) (h0 : Heap) (n0 : Nat) (Z0 : n0 ≤ h0.size)  :
    own_Met l Z (⟨"java/lang/Record", "<init>", "()V"⟩ : MethodName) jdk_30_method_1_code 1 none ({ frames := 1, cells := 0, slots := 0, locals := 12 } : Room) #[(.ref a)] h0 (fun v h L => v = none ∧ L = [] ∧ h = h0) := by
  refine MetFree.of_bodySF (plainFor_of_name own_f1) hisR ?_
  intro p e s m args below meth c s₁ Bd hml0 hP hK
  obtain ⟨rfl, hZ, hh⟩ := hP
  have hx := Bd.exec
  have hby := Bd.bytes
  have hlk : meth.locks = false := Bd.notSynchronized
  have hml : c.maxLocals = 1 := hml0
  have hown : s.vm.findClass "java/lang/Record" = some m.cls := findClass_of_methodNamed Bd.named
  have hnm := (name_of_methodNamed Bd.named Bd.method).1
  have X0 : Stand p l e ({ frames := 1, cells := 0, slots := 0, locals := 12 } : Room) s m #[(.ref a)] below meth c s₁ [] 0 0 := Stand.of_body Bd
  have e0 : s₁.heap = h0 := by rw [← hh, Bd.state]; rfl
  show own_Go p e below (own_G s (fun v h L => v = none ∧ L = [] ∧ h = h0) 0 0) (s₁.setTop (entryFrame m #[(.ref a)] 1))
  rw [own_f3]
  show own_Go p e below _ (s₁.setTop (mkF m 0 #[.val (.ref a)] []))
  refine own_go (XS.aloadN X0.here hx rfl (hb hby own_init0_0) rfl rfl (Steps.refl _)) ?_
  show own_Go p e below _ (s₁.setTop (mkF m 1 #[.val (.ref a)] [(.ref a)]))
  obtain ⟨T1, X1, e1, st1⟩ := initO X0 hx hZ hown (hw _ (List.mem_of_getElem? (i := 12) rfl)) (hw _ (List.mem_of_getElem? (i := 13) rfl)) (hw _ (List.mem_of_getElem? (i := 14) rfl)) e0 (g := (mkF m 1 #[.val (.ref a)] [(.ref a)])) rfl (by rw [hml]; rfl) rfl (hb hby own_init0_1) (by decide) (W := 0) (by show 2 * 0 + _ ≤ _; exact Nat.le_of_eq rfl) (by decide)
  refine own_go (st1 _ (Steps.refl _)) ?_
  show own_Go p e below _ (T1.setTop (mkF m 4 #[.val (.ref a)] []))
  exact own_retV X1 hx hlk e1 Bd.returns (hb hby own_init0_4) ⟨rfl, rfl, rfl⟩ (by decide) (by decide)
theorem own_carries_0 : decode prog_120_method_2_code 0 = .ok (.lload_n 0, 1) := by decide +kernel
theorem own_carries_1 : decode prog_120_method_2_code 1 = .ok (.lconst 0, 1) := by decide +kernel
theorem own_carries_2 : decode prog_120_method_2_code 2 = .ok (.lcmp, 1) := by decide +kernel
theorem own_carries_3 : decode prog_120_method_2_code 3 = .ok (.ifCond .lt 15, 3) := by decide +kernel
theorem own_carries_6 : decode prog_120_method_2_code 6 = .ok (.lload_n 0, 1) := by decide +kernel
theorem own_carries_7 : decode prog_120_method_2_code 7 = .ok (.ldc2_w 31, 3) := by decide +kernel
theorem own_carries_10 : decode prog_120_method_2_code 10 = .ok (.lcmp, 1) := by decide +kernel
theorem own_carries_11 : decode prog_120_method_2_code 11 = .ok (.ifCond .gt 7, 3) := by decide +kernel
theorem own_carries_14 : decode prog_120_method_2_code 14 = .ok (.iconst 1, 1) := by decide +kernel
theorem own_carries_15 : decode prog_120_method_2_code 15 = .ok (.goto 4, 3) := by decide +kernel
theorem own_carries_18 : decode prog_120_method_2_code 18 = .ok (.iconst 0, 1) := by decide +kernel
theorem own_carries_19 : decode prog_120_method_2_code 19 = .ok (.ireturn, 1) := by decide +kernel
theorem own_f5 : plainName "com/example/orderbound/orderbound/store/Stamp" = true := by first | (simp [plainName, overriddenIn]; done) | decide +kernel
theorem own_f6 (m : MethodId) (x0 : Int64) : entryFrame m #[(.long x0)] 2 = mkF m 0 #[.val (.long x0), .second] [] := by first | (simp [entryFrame, mkF, argsToLocals, Value.category]; done) | rfl
set_option maxRecDepth 65536 in
set_option maxHeartbeats 40000000 in
theorem rm_car (l : Launch) (Z : State) (a0 : Array Value) (hw : ∀ d ∈ tables_1, d.before a0 Z = true) (q : Int64) (h0 : Heap) (n0 : Nat) (Z0 : n0 ≤ h0.size)  :
    own_Met l Z (⟨"com/example/orderbound/orderbound/store/Stamp", "carries", "(J)Z"⟩ : MethodName) prog_120_method_2_code 2 (some .boolean) ({ frames := 0, cells := 0, slots := 0, locals := 0 } : Room) #[(.long q)] h0 (fun v h L => v = some (.int (own_b (¬ q < (0 : Int64) ∧ ¬ (4611686018427387903 : Int64) < q))) ∧ L = [] ∧ h = h0) := by
  refine MetFree.of_bodySF (plainFor_of_name own_f5) hisR ?_
  intro p e s m args below meth c s₁ Bd hml0 hP hK
  obtain ⟨rfl, hZ, hh⟩ := hP
  have hx := Bd.exec
  have hby := Bd.bytes
  have hlk : meth.locks = false := Bd.notSynchronized
  have hml : c.maxLocals = 2 := hml0
  have hown : s.vm.findClass "com/example/orderbound/orderbound/store/Stamp" = some m.cls := findClass_of_methodNamed Bd.named
  have hnm := (name_of_methodNamed Bd.named Bd.method).1
  have X0 : Stand p l e ({ frames := 0, cells := 0, slots := 0, locals := 0 } : Room) s m #[(.long q)] below meth c s₁ [] 0 0 := Stand.of_body Bd
  have e0 : s₁.heap = h0 := by rw [← hh, Bd.state]; rfl
  show own_Go p e below (own_G s (fun v h L => v = some (.int (own_b (¬ q < (0 : Int64) ∧ ¬ (4611686018427387903 : Int64) < q))) ∧ L = [] ∧ h = h0) 0 0) (s₁.setTop (entryFrame m #[(.long q)] 2))
  rw [own_f6]
  show own_Go p e below _ (s₁.setTop (mkF m 0 #[.val (.long q), .second] []))
  refine own_go (XS.lloadN X0.here hx rfl (hb hby own_carries_0) rfl (Steps.refl _)) ?_
  show own_Go p e below _ (s₁.setTop (mkF m 1 #[.val (.long q), .second] [(.long q)]))
  refine own_go (XS.lconst X0.here hx rfl (hb hby own_carries_1) (Steps.refl _)) ?_
  show own_Go p e below _ (s₁.setTop (mkF m 2 #[.val (.long q), .second] [(.long (0 : Int64)), (.long q)]))
  refine own_go (XS.lcmp X0.here hx rfl (hb hby own_carries_2) rfl (Steps.refl _)) ?_
  show own_Go p e below _ (s₁.setTop (mkF m 3 #[.val (.long q), .second] [(.int (lcmpW q (0 : Int64)))]))
  by_cases hc3 : q < (0 : Int64)
  · refine own_go (XS.ifYes X0.here hx rfl (pc0 := 3) (pc' := 18) rfl (hb hby own_carries_3) rfl (own_tltJ hc3).1 (by decide) (by decide) (Steps.refl _)) ?_
    show own_Go p e below _ (s₁.setTop (mkF m 18 #[.val (.long q), .second] []))
    refine own_go (XS.iconst X0.here hx rfl (hb hby own_carries_18) (Steps.refl _)) ?_
    show own_Go p e below _ (s₁.setTop (mkF m 19 #[.val (.long q), .second] [(.int (0 : Int32))]))
    exact own_retZ X0 hx hlk e0 Bd.returns (hb hby own_carries_19) (Or.inl rfl) ⟨congrArg (fun u => some (Value.int u)) ((own_b_f (by simp [hc3])).symm), rfl, rfl⟩ (by decide) (by decide)
  · refine own_go (XS.ifNo X0.here hx rfl (hb hby own_carries_3) rfl (own_fltJ hc3).1 (Steps.refl _)) ?_
    show own_Go p e below _ (s₁.setTop (mkF m 6 #[.val (.long q), .second] []))
    refine own_go (XS.lloadN X0.here hx rfl (hb hby own_carries_6) rfl (Steps.refl _)) ?_
    show own_Go p e below _ (s₁.setTop (mkF m 7 #[.val (.long q), .second] [(.long q)]))
    refine own_go (X0.ldc2Long hx hown (mvT hZ (hw _ (List.mem_of_getElem? (i := 18) rfl))) (g := (mkF m 7 #[.val (.long q), .second] [(.long q)])) rfl (hb hby own_carries_7) _ (Steps.refl _)) ?_
    show own_Go p e below _ (s₁.setTop (mkF m 10 #[.val (.long q), .second] [(.long (4611686018427387903 : Int64)), (.long q)]))
    refine own_go (XS.lcmp X0.here hx rfl (hb hby own_carries_10) rfl (Steps.refl _)) ?_
    show own_Go p e below _ (s₁.setTop (mkF m 11 #[.val (.long q), .second] [(.int (lcmpW q (4611686018427387903 : Int64)))]))
    by_cases hc11 : (4611686018427387903 : Int64) < q
    · refine own_go (XS.ifYes X0.here hx rfl (pc0 := 11) (pc' := 18) rfl (hb hby own_carries_11) rfl (own_tgtJ hc11).1 (by decide) (by decide) (Steps.refl _)) ?_
      show own_Go p e below _ (s₁.setTop (mkF m 18 #[.val (.long q), .second] []))
      refine own_go (XS.iconst X0.here hx rfl (hb hby own_carries_18) (Steps.refl _)) ?_
      show own_Go p e below _ (s₁.setTop (mkF m 19 #[.val (.long q), .second] [(.int (0 : Int32))]))
      exact own_retZ X0 hx hlk e0 Bd.returns (hb hby own_carries_19) (Or.inl rfl) ⟨congrArg (fun u => some (Value.int u)) ((own_b_f (by simp [hc3, hc11])).symm), rfl, rfl⟩ (by decide) (by decide)
    · refine own_go (XS.ifNo X0.here hx rfl (hb hby own_carries_11) rfl (own_fgtJ hc11).1 (Steps.refl _)) ?_
      show own_Go p e below _ (s₁.setTop (mkF m 14 #[.val (.long q), .second] []))
      refine own_go (XS.iconst X0.here hx rfl (hb hby own_carries_14) (Steps.refl _)) ?_
      show own_Go p e below _ (s₁.setTop (mkF m 15 #[.val (.long q), .second] [(.int (1 : Int32))]))
      refine own_go (XS.goto X0.here hx rfl (pc0 := 15) (pc' := 19) rfl (hb hby own_carries_15) (by decide) (by decide) (Steps.refl _)) ?_
      show own_Go p e below _ (s₁.setTop (mkF m 19 #[.val (.long q), .second] [(.int (1 : Int32))]))
      exact own_retZ X0 hx hlk e0 Bd.returns (hb hby own_carries_19) (Or.inr rfl) ⟨congrArg (fun u => some (Value.int u)) ((own_b_t (by simp [hc3, hc11])).symm), rfl, rfl⟩ (by decide) (by decide)
theorem own_init7_0 : decode prog_120_method_1_code 0 = .ok (.aload_n 0, 1) := by decide +kernel
theorem own_init7_1 : decode prog_120_method_1_code 1 = .ok (.invokespecial 3, 3) := by decide +kernel
theorem own_init7_4 : decode prog_120_method_1_code 4 = .ok (.lload_n 1, 1) := by decide +kernel
theorem own_init7_5 : decode prog_120_method_1_code 5 = .ok (.invokestatic 9, 3) := by decide +kernel
theorem own_init7_8 : decode prog_120_method_1_code 8 = .ok (.ifCond .ne 17, 3) := by decide +kernel
theorem own_init7_11 : decode prog_120_method_1_code 11 = .ok (.new 15, 3) := by decide +kernel
theorem own_init7_14 : decode prog_120_method_1_code 14 = .ok (.dup, 1) := by decide +kernel
theorem own_init7_15 : decode prog_120_method_1_code 15 = .ok (.lload_n 1, 1) := by decide +kernel
theorem own_init7_21 : decode prog_120_method_1_code 21 = .ok (.invokespecial 21, 3) := by decide +kernel
theorem own_init7_24 : decode prog_120_method_1_code 24 = .ok (.athrow, 1) := by decide +kernel
theorem own_init7_25 : decode prog_120_method_1_code 25 = .ok (.aload_n 0, 1) := by decide +kernel
theorem own_init7_26 : decode prog_120_method_1_code 26 = .ok (.lload_n 1, 1) := by decide +kernel
theorem own_init7_27 : decode prog_120_method_1_code 27 = .ok (.putfield 24, 3) := by decide +kernel
theorem own_init7_30 : decode prog_120_method_1_code 30 = .ok (.aload_n 0, 1) := by decide +kernel
theorem own_init7_31 : decode prog_120_method_1_code 31 = .ok (.lload_n 3, 1) := by decide +kernel
theorem own_init7_32 : decode prog_120_method_1_code 32 = .ok (.putfield 28, 3) := by decide +kernel
theorem own_init7_35 : decode prog_120_method_1_code 35 = .ok (.return_, 1) := by decide +kernel
theorem own_f8 : parseMethodDescriptor "(J)Z" = some ⟨[.long], some .boolean⟩ := by decide +kernel
theorem own_f9 (m : MethodId) (x0 : Addr) (x1 : Int64) (x2 : Int64) : entryFrame m #[(.ref x0), (.long x1), (.long x2)] 5 = mkF m 0 #[.val (.ref x0), .val (.long x1), .second, .val (.long x2), .second] [] := by first | (simp [entryFrame, mkF, argsToLocals, Value.category]; done) | rfl
set_option maxRecDepth 65536 in
set_option maxHeartbeats 40000000 in
theorem rm_init (l : Launch) (Z : State) (a0 : Array Value) (hw : ∀ d ∈ tables_1, d.before a0 Z = true) (a : Addr) (q1 q2 : Int64) (h0 : Heap) (n0 : Nat) (Z0 : n0 ≤ h0.size) (ok : own_ok q1) (A : Exa Z h0 a "com/example/orderbound/orderbound/store/Stamp") (ge_a : n0 ≤ a) (F_time : Fld Z h0 a "com/example/orderbound/orderbound/store/Stamp" "time" "J" (.long (0 : Int64))) (F_replica : Fld Z h0 a "com/example/orderbound/orderbound/store/Stamp" "replica" "J" (.long (0 : Int64))) :
    own_Met l Z (⟨"com/example/orderbound/orderbound/store/Stamp", "<init>", "(JJ)V"⟩ : MethodName) prog_120_method_1_code 5 none ({ frames := 2, cells := 0, slots := 0, locals := 24 } : Room) #[(.ref a), (.long q1), (.long q2)] h0 (fun v h L => v = none ∧ Fr n0 L ∧ Keep h0 h [a] ∧ Fld Z h a "com/example/orderbound/orderbound/store/Stamp" "time" "J" (.long q1) ∧ Fld Z h a "com/example/orderbound/orderbound/store/Stamp" "replica" "J" (.long q2)) := by
  refine MetFree.of_bodySF (plainFor_of_name own_f5) hisR ?_
  intro p e s m args below meth c s₁ Bd hml0 hP hK
  obtain ⟨rfl, hZ, hh⟩ := hP
  have hx := Bd.exec
  have hby := Bd.bytes
  have hlk : meth.locks = false := Bd.notSynchronized
  have hml : c.maxLocals = 5 := hml0
  have hown : s.vm.findClass "com/example/orderbound/orderbound/store/Stamp" = some m.cls := findClass_of_methodNamed Bd.named
  have hnm := (name_of_methodNamed Bd.named Bd.method).1
  have X0 : Stand p l e ({ frames := 2, cells := 0, slots := 0, locals := 24 } : Room) s m #[(.ref a), (.long q1), (.long q2)] below meth c s₁ [] 0 0 := Stand.of_body Bd
  have e0 : s₁.heap = h0 := by rw [← hh, Bd.state]; rfl
  show own_Go p e below (own_G s (fun v h L => v = none ∧ Fr n0 L ∧ Keep h0 h [a] ∧ Fld Z h a "com/example/orderbound/orderbound/store/Stamp" "time" "J" (.long q1) ∧ Fld Z h a "com/example/orderbound/orderbound/store/Stamp" "replica" "J" (.long q2)) 0 0) (s₁.setTop (entryFrame m #[(.ref a), (.long q1), (.long q2)] 5))
  rw [own_f9]
  show own_Go p e below _ (s₁.setTop (mkF m 0 #[.val (.ref a), .val (.long q1), .second, .val (.long q2), .second] []))
  refine own_go (XS.aloadN X0.here hx rfl (hb hby own_init7_0) rfl rfl (Steps.refl _)) ?_
  show own_Go p e below _ (s₁.setTop (mkF m 1 #[.val (.ref a), .val (.long q1), .second, .val (.long q2), .second] [(.ref a)]))
  obtain ⟨_, _, ⟨T2, L2, k2, n2⟩, -, X2, ⟨Lc2, hQ2, l2, y2, z2⟩, st2⟩ := X0.specialBack hx (y := (⟨"java/lang/Record", "<init>", "()V"⟩ : MethodName)) rfl hown (mvT hZ (hw _ (List.mem_of_getElem? (i := 7) rfl))) (mvT hZ (hw _ (List.mem_of_getElem? (i := 8) rfl))) (mvT hZ (hw _ (List.mem_of_getElem? (i := 11) rfl))) (by decide) (own_pays (W := 0) (rm_rec l Z a0 hw a h0 n0 Z0) hZ (hw _ (List.mem_of_getElem? (i := 11) rfl)) (hw _ (List.mem_of_getElem? (i := 10) rfl)) (by decide) (by decide)) (g := (mkF m 1 #[.val (.ref a), .val (.long q1), .second, .val (.long q2), .second] [(.ref a)])) rfl (by rw [hml]; rfl) (Steps.refl _) (a := a) (argsL := []) (rest := []) (lenOf own_f2 rfl) rfl (by show 2 * 0 + _ ≤ _; exact Nat.le_of_eq rfl) (hb hby own_init7_1) (fun _ _ => ⟨rfl, e0, (by decide : 0 + 0 ≤ _), (by decide : 0 + 0 ≤ _)⟩)
  dsimp only [Pt.U, Pt.locs, Pt.cells, Pt.slots] at X2 l2 y2 z2 st2 hQ2
  subst l2 y2 z2
  obtain ⟨rfl, rfl, e2⟩ := hQ2
  try rw [List.append_nil] at X2
  refine own_go st2 ?_
  show own_Go p e below _ (T2.setTop (mkF m 4 #[.val (.ref a), .val (.long q1), .second, .val (.long q2), .second] []))
  refine own_go (XS.lloadN X2.here hx rfl (hb hby own_init7_4) rfl (Steps.refl _)) ?_
  show own_Go p e below _ (T2.setTop (mkF m 5 #[.val (.ref a), .val (.long q1), .second, .val (.long q2), .second] [(.long q1)]))
  obtain ⟨_, _, ⟨T3, L3, k3, n3⟩, -, X3, ⟨Lc3, hQ3, l3, y3, z3⟩, st3⟩ := Jvm.LawKit.callS X2 hx (y := (⟨"com/example/orderbound/orderbound/store/Stamp", "carries", "(J)Z"⟩ : MethodName)) hown (mvT hZ (hw _ (List.mem_of_getElem? (i := 15) rfl))) (mvT hZ (hw _ (List.mem_of_getElem? (i := 16) rfl))) (mvT hZ (hw _ (List.mem_of_getElem? (i := 3) rfl))) (mvT hZ (hw _ (List.mem_of_getElem? (i := 17) rfl))) (by decide) (own_pays (W := 0) (rm_car l Z a0 hw q1 h0 n0 Z0) hZ (hw _ (List.mem_of_getElem? (i := 17) rfl)) (hw _ (List.mem_of_getElem? (i := 3) rfl)) (by decide) (by decide)) (g := (mkF m 5 #[.val (.ref a), .val (.long q1), .second, .val (.long q2), .second] [(.long q1)])) rfl (by rw [hml]; rfl) (argsL := [(.long q1)]) (rest := []) (lenOf own_f8 rfl) rfl (by show 2 * 0 + _ ≤ _; exact Nat.le_of_eq rfl) (hb hby own_init7_5) (fun _ _ => ⟨rfl, e2, (by decide : 0 + 0 ≤ _), (by decide : 0 + 0 ≤ _)⟩)
  dsimp only [Pt.U, Pt.locs, Pt.cells, Pt.slots] at X3 l3 y3 z3 st3 hQ3
  subst l3 y3 z3
  obtain ⟨rfl, rfl, e3⟩ := hQ3
  try rw [List.append_nil] at X3
  refine own_go (st3 _ (Steps.refl _)) ?_
  show own_Go p e below _ (T3.setTop (mkF m 8 #[.val (.ref a), .val (.long q1), .second, .val (.long q2), .second] [(.int (own_b (¬ q1 < (0 : Int64) ∧ ¬ (4611686018427387903 : Int64) < q1)))]))
  refine own_go (XS.ifYes X3.here hx rfl (pc0 := 8) (pc' := 25) rfl (hb hby own_init7_8) rfl ((if0 _ _).trans (feq (own_b_nz (show ¬ q1 < (0 : Int64) ∧ ¬ (4611686018427387903 : Int64) < q1 from ok))).2) (by decide) (by decide) (Steps.refl _)) ?_
  show own_Go p e below _ (T3.setTop (mkF m 25 #[.val (.ref a), .val (.long q1), .second, .val (.long q2), .second] []))
  refine own_go (XS.aloadN X3.here hx rfl (hb hby own_init7_25) rfl rfl (Steps.refl _)) ?_
  show own_Go p e below _ (T3.setTop (mkF m 26 #[.val (.ref a), .val (.long q1), .second, .val (.long q2), .second] [(.ref a)]))
  refine own_go (XS.lloadN X3.here hx rfl (hb hby own_init7_26) rfl (Steps.refl _)) ?_
  show own_Go p e below _ (T3.setTop (mkF m 27 #[.val (.ref a), .val (.long q1), .second, .val (.long q2), .second] [(.long q1), (.ref a)]))
  obtain ⟨T4, h4, X4, e4, W4, st4⟩ := putF X3 hx hZ hown (host := "") (Or.inl (hw _ (List.mem_of_getElem? (i := 19) rfl))) Via.refl e3 F_time A (Or.inr ⟨(hw _ (List.mem_of_getElem? (i := 20) rfl)), rfl, hnm⟩) (hw _ (List.mem_of_getElem? (i := 2) rfl)) (ty := .long) (by decide) rfl rfl (g := (mkF m 27 #[.val (.ref a), .val (.long q1), .second, .val (.long q2), .second] [(.long q1), (.ref a)])) rfl rfl (hb hby own_init7_27)
  have F4 := F_time.same W4
  have N4 := Fr.snoc X4 (Fr.nil n0) ge_a
  have Zl4 : n0 ≤ h4.size := Nat.le_trans Z0 (Keep.of_wr W4).1
  have K4 : Keep h0 h4 [a] := (Keep.refl h0 [a]).wr W4 (Or.inl (List.mem_of_getElem? (i := 0) rfl))
  refine own_go (st4 _ (Steps.refl _)) ?_
  show own_Go p e below _ (T4.setTop (mkF m 30 #[.val (.ref a), .val (.long q1), .second, .val (.long q2), .second] []))
  refine own_go (XS.aloadN X4.here hx rfl (hb hby own_init7_30) rfl rfl (Steps.refl _)) ?_
  show own_Go p e below _ (T4.setTop (mkF m 31 #[.val (.ref a), .val (.long q1), .second, .val (.long q2), .second] [(.ref a)]))
  refine own_go (XS.lloadN X4.here hx rfl (hb hby own_init7_31) rfl (Steps.refl _)) ?_
  show own_Go p e below _ (T4.setTop (mkF m 32 #[.val (.ref a), .val (.long q1), .second, .val (.long q2), .second] [(.long q2), (.ref a)]))
  obtain ⟨T5, h5, X5, e5, W5, st5⟩ := putF X4 hx hZ hown (host := "") (Or.inl (hw _ (List.mem_of_getElem? (i := 21) rfl))) Via.refl e4 (F_replica.other W4 (Or.inr (slot_ne (Or.inr (hw _ (List.mem_of_getElem? (i := 22) rfl))) (Or.inr (hw _ (List.mem_of_getElem? (i := 20) rfl))) (by decide) (t := .long) (t' := .long) (by decide) (by decide)))) (A.wr W4) (Or.inr ⟨(hw _ (List.mem_of_getElem? (i := 22) rfl)), rfl, hnm⟩) (hw _ (List.mem_of_getElem? (i := 2) rfl)) (ty := .long) (by decide) rfl rfl (g := (mkF m 32 #[.val (.ref a), .val (.long q1), .second, .val (.long q2), .second] [(.long q2), (.ref a)])) rfl rfl (hb hby own_init7_32)
  have F5 := (F_replica.other W4 (Or.inr (slot_ne (Or.inr (hw _ (List.mem_of_getElem? (i := 22) rfl))) (Or.inr (hw _ (List.mem_of_getElem? (i := 20) rfl))) (by decide) (t := .long) (t' := .long) (by decide) (by decide)))).same W5
  have N5 := Fr.snoc X5 N4 ge_a
  have Zl5 : n0 ≤ h5.size := Nat.le_trans Zl4 (Keep.of_wr W5).1
  have K5 : Keep h0 h5 [a] := K4.wr W5 (Or.inl (List.mem_of_getElem? (i := 0) rfl))
  refine own_go (st5 _ (Steps.refl _)) ?_
  show own_Go p e below _ (T5.setTop (mkF m 35 #[.val (.ref a), .val (.long q1), .second, .val (.long q2), .second] []))
  exact own_retV X5 hx hlk e5 Bd.returns (hb hby own_init7_35) ⟨rfl, N5, K5, (F4.other W5 (Or.inr (slot_ne (Or.inr (hw _ (List.mem_of_getElem? (i := 20) rfl))) (Or.inr (hw _ (List.mem_of_getElem? (i := 22) rfl))) (by decide) (t := .long) (t' := .long) (by decide) (by decide)))), F5⟩ (by decide) (by decide)
theorem own_isAfter_0 : decode prog_120_method_3_code 0 = .ok (.aload_n 0, 1) := by decide +kernel
theorem own_isAfter_1 : decode prog_120_method_3_code 1 = .ok (.getfield 24, 3) := by decide +kernel
theorem own_isAfter_4 : decode prog_120_method_3_code 4 = .ok (.aload_n 1, 1) := by decide +kernel
theorem own_isAfter_5 : decode prog_120_method_3_code 5 = .ok (.getfield 24, 3) := by decide +kernel
theorem own_isAfter_8 : decode prog_120_method_3_code 8 = .ok (.lcmp, 1) := by decide +kernel
theorem own_isAfter_9 : decode prog_120_method_3_code 9 = .ok (.ifCond .gt 27, 3) := by decide +kernel
theorem own_isAfter_12 : decode prog_120_method_3_code 12 = .ok (.aload_n 0, 1) := by decide +kernel
theorem own_isAfter_13 : decode prog_120_method_3_code 13 = .ok (.getfield 24, 3) := by decide +kernel
theorem own_isAfter_16 : decode prog_120_method_3_code 16 = .ok (.aload_n 1, 1) := by decide +kernel
theorem own_isAfter_17 : decode prog_120_method_3_code 17 = .ok (.getfield 24, 3) := by decide +kernel
theorem own_isAfter_20 : decode prog_120_method_3_code 20 = .ok (.lcmp, 1) := by decide +kernel
theorem own_isAfter_21 : decode prog_120_method_3_code 21 = .ok (.ifCond .ne 19, 3) := by decide +kernel
theorem own_isAfter_24 : decode prog_120_method_3_code 24 = .ok (.aload_n 0, 1) := by decide +kernel
theorem own_isAfter_25 : decode prog_120_method_3_code 25 = .ok (.getfield 28, 3) := by decide +kernel
theorem own_isAfter_28 : decode prog_120_method_3_code 28 = .ok (.aload_n 1, 1) := by decide +kernel
theorem own_isAfter_29 : decode prog_120_method_3_code 29 = .ok (.getfield 28, 3) := by decide +kernel
theorem own_isAfter_32 : decode prog_120_method_3_code 32 = .ok (.lcmp, 1) := by decide +kernel
theorem own_isAfter_33 : decode prog_120_method_3_code 33 = .ok (.ifCond .le 7, 3) := by decide +kernel
theorem own_isAfter_36 : decode prog_120_method_3_code 36 = .ok (.iconst 1, 1) := by decide +kernel
theorem own_isAfter_37 : decode prog_120_method_3_code 37 = .ok (.goto 4, 3) := by decide +kernel
theorem own_isAfter_40 : decode prog_120_method_3_code 40 = .ok (.iconst 0, 1) := by decide +kernel
theorem own_isAfter_41 : decode prog_120_method_3_code 41 = .ok (.ireturn, 1) := by decide +kernel
theorem own_f11 (m : MethodId) (x0 : Addr) (x1 : Addr) : entryFrame m #[(.ref x0), (.ref x1)] 2 = mkF m 0 #[.val (.ref x0), .val (.ref x1)] [] := by first | (simp [entryFrame, mkF, argsToLocals, Value.category]; done) | rfl
set_option maxRecDepth 65536 in
set_option maxHeartbeats 40000000 in
theorem rm_after (l : Launch) (Z : State) (a0 : Array Value) (hw : ∀ d ∈ tables_1, d.before a0 Z = true) (a b : Addr) (ta ra tb rb : Int64) (h0 : Heap) (n0 : Nat) (Z0 : n0 ≤ h0.size) (Fta : Fld Z h0 a "com/example/orderbound/orderbound/store/Stamp" "time" "J" (.long ta)) (Fra : Fld Z h0 a "com/example/orderbound/orderbound/store/Stamp" "replica" "J" (.long ra)) (Ftb : Fld Z h0 b "com/example/orderbound/orderbound/store/Stamp" "time" "J" (.long tb)) (Frb : Fld Z h0 b "com/example/orderbound/orderbound/store/Stamp" "replica" "J" (.long rb)) :
    own_Met l Z (⟨"com/example/orderbound/orderbound/store/Stamp", "isAfter", "(Lcom/example/orderbound/orderbound/store/Stamp;)Z"⟩ : MethodName) prog_120_method_3_code 2 (some .boolean) ({ frames := 0, cells := 0, slots := 0, locals := 0 } : Room) #[(.ref a), (.ref b)] h0 (fun v h L => v = some (.int (own_b (own_aft ta ra tb rb = true))) ∧ L = [] ∧ h = h0) := by
  refine MetFree.of_bodySF (plainFor_of_name own_f5) hisR ?_
  intro p e s m args below meth c s₁ Bd hml0 hP hK
  obtain ⟨rfl, hZ, hh⟩ := hP
  have hx := Bd.exec
  have hby := Bd.bytes
  have hlk : meth.locks = false := Bd.notSynchronized
  have hml : c.maxLocals = 2 := hml0
  have hown : s.vm.findClass "com/example/orderbound/orderbound/store/Stamp" = some m.cls := findClass_of_methodNamed Bd.named
  have hnm := (name_of_methodNamed Bd.named Bd.method).1
  have X0 : Stand p l e ({ frames := 0, cells := 0, slots := 0, locals := 0 } : Room) s m #[(.ref a), (.ref b)] below meth c s₁ [] 0 0 := Stand.of_body Bd
  have e0 : s₁.heap = h0 := by rw [← hh, Bd.state]; rfl
  show own_Go p e below (own_G s (fun v h L => v = some (.int (own_b (own_aft ta ra tb rb = true))) ∧ L = [] ∧ h = h0) 0 0) (s₁.setTop (entryFrame m #[(.ref a), (.ref b)] 2))
  rw [own_f11]
  show own_Go p e below _ (s₁.setTop (mkF m 0 #[.val (.ref a), .val (.ref b)] []))
  refine own_go (XS.aloadN X0.here hx rfl (hb hby own_isAfter_0) rfl rfl (Steps.refl _)) ?_
  show own_Go p e below _ (s₁.setTop (mkF m 1 #[.val (.ref a), .val (.ref b)] [(.ref a)]))
  obtain ⟨T6, X6, e6, st6⟩ := getF X0 hx hZ hown (host := "") (Or.inl (hw _ (List.mem_of_getElem? (i := 19) rfl))) Via.refl e0 Fta (g := (mkF m 1 #[.val (.ref a), .val (.ref b)] [(.ref a)])) rfl rfl (hb hby own_isAfter_1)
  refine own_go (st6 _ (Steps.refl _)) ?_
  show own_Go p e below _ (T6.setTop (mkF m 4 #[.val (.ref a), .val (.ref b)] [(.long ta)]))
  refine own_go (XS.aloadN X6.here hx rfl (hb hby own_isAfter_4) rfl rfl (Steps.refl _)) ?_
  show own_Go p e below _ (T6.setTop (mkF m 5 #[.val (.ref a), .val (.ref b)] [(.ref b), (.long ta)]))
  obtain ⟨T7, X7, e7, st7⟩ := getF X6 hx hZ hown (host := "") (Or.inl (hw _ (List.mem_of_getElem? (i := 19) rfl))) Via.refl e6 Ftb (g := (mkF m 5 #[.val (.ref a), .val (.ref b)] [(.ref b), (.long ta)])) rfl rfl (hb hby own_isAfter_5)
  refine own_go (st7 _ (Steps.refl _)) ?_
  show own_Go p e below _ (T7.setTop (mkF m 8 #[.val (.ref a), .val (.ref b)] [(.long tb), (.long ta)]))
  refine own_go (XS.lcmp X7.here hx rfl (hb hby own_isAfter_8) rfl (Steps.refl _)) ?_
  show own_Go p e below _ (T7.setTop (mkF m 9 #[.val (.ref a), .val (.ref b)] [(.int (lcmpW ta tb))]))
  by_cases hc9 : tb < ta
  · refine own_go (XS.ifYes X7.here hx rfl (pc0 := 9) (pc' := 36) rfl (hb hby own_isAfter_9) rfl (own_tgtJ hc9).1 (by decide) (by decide) (Steps.refl _)) ?_
    show own_Go p e below _ (T7.setTop (mkF m 36 #[.val (.ref a), .val (.ref b)] []))
    refine own_go (XS.iconst X7.here hx rfl (hb hby own_isAfter_36) (Steps.refl _)) ?_
    show own_Go p e below _ (T7.setTop (mkF m 37 #[.val (.ref a), .val (.ref b)] [(.int (1 : Int32))]))
    refine own_go (XS.goto X7.here hx rfl (pc0 := 37) (pc' := 41) rfl (hb hby own_isAfter_37) (by decide) (by decide) (Steps.refl _)) ?_
    show own_Go p e below _ (T7.setTop (mkF m 41 #[.val (.ref a), .val (.ref b)] [(.int (1 : Int32))]))
    exact own_retZ X7 hx hlk e7 Bd.returns (hb hby own_isAfter_41) (Or.inr rfl) ⟨congrArg (fun u => some (Value.int u)) ((own_b_t (by simp [hc9, own_aft])).symm), rfl, rfl⟩ (by decide) (by decide)
  · refine own_go (XS.ifNo X7.here hx rfl (hb hby own_isAfter_9) rfl (own_fgtJ hc9).1 (Steps.refl _)) ?_
    show own_Go p e below _ (T7.setTop (mkF m 12 #[.val (.ref a), .val (.ref b)] []))
    refine own_go (XS.aloadN X7.here hx rfl (hb hby own_isAfter_12) rfl rfl (Steps.refl _)) ?_
    show own_Go p e below _ (T7.setTop (mkF m 13 #[.val (.ref a), .val (.ref b)] [(.ref a)]))
    obtain ⟨T8, X8, e8, st8⟩ := getF X7 hx hZ hown (host := "") (Or.inl (hw _ (List.mem_of_getElem? (i := 19) rfl))) Via.refl e7 Fta (g := (mkF m 13 #[.val (.ref a), .val (.ref b)] [(.ref a)])) rfl rfl (hb hby own_isAfter_13)
    refine own_go (st8 _ (Steps.refl _)) ?_
    show own_Go p e below _ (T8.setTop (mkF m 16 #[.val (.ref a), .val (.ref b)] [(.long ta)]))
    refine own_go (XS.aloadN X8.here hx rfl (hb hby own_isAfter_16) rfl rfl (Steps.refl _)) ?_
    show own_Go p e below _ (T8.setTop (mkF m 17 #[.val (.ref a), .val (.ref b)] [(.ref b), (.long ta)]))
    obtain ⟨T9, X9, e9, st9⟩ := getF X8 hx hZ hown (host := "") (Or.inl (hw _ (List.mem_of_getElem? (i := 19) rfl))) Via.refl e8 Ftb (g := (mkF m 17 #[.val (.ref a), .val (.ref b)] [(.ref b), (.long ta)])) rfl rfl (hb hby own_isAfter_17)
    refine own_go (st9 _ (Steps.refl _)) ?_
    show own_Go p e below _ (T9.setTop (mkF m 20 #[.val (.ref a), .val (.ref b)] [(.long tb), (.long ta)]))
    refine own_go (XS.lcmp X9.here hx rfl (hb hby own_isAfter_20) rfl (Steps.refl _)) ?_
    show own_Go p e below _ (T9.setTop (mkF m 21 #[.val (.ref a), .val (.ref b)] [(.int (lcmpW ta tb))]))
    by_cases hc21 : ta = tb
    · refine own_go (XS.ifNo X9.here hx rfl (hb hby own_isAfter_21) rfl (own_teqJ hc21).2 (Steps.refl _)) ?_
      show own_Go p e below _ (T9.setTop (mkF m 24 #[.val (.ref a), .val (.ref b)] []))
      refine own_go (XS.aloadN X9.here hx rfl (hb hby own_isAfter_24) rfl rfl (Steps.refl _)) ?_
      show own_Go p e below _ (T9.setTop (mkF m 25 #[.val (.ref a), .val (.ref b)] [(.ref a)]))
      obtain ⟨T10, X10, e10, st10⟩ := getF X9 hx hZ hown (host := "") (Or.inl (hw _ (List.mem_of_getElem? (i := 21) rfl))) Via.refl e9 Fra (g := (mkF m 25 #[.val (.ref a), .val (.ref b)] [(.ref a)])) rfl rfl (hb hby own_isAfter_25)
      refine own_go (st10 _ (Steps.refl _)) ?_
      show own_Go p e below _ (T10.setTop (mkF m 28 #[.val (.ref a), .val (.ref b)] [(.long ra)]))
      refine own_go (XS.aloadN X10.here hx rfl (hb hby own_isAfter_28) rfl rfl (Steps.refl _)) ?_
      show own_Go p e below _ (T10.setTop (mkF m 29 #[.val (.ref a), .val (.ref b)] [(.ref b), (.long ra)]))
      obtain ⟨T11, X11, e11, st11⟩ := getF X10 hx hZ hown (host := "") (Or.inl (hw _ (List.mem_of_getElem? (i := 21) rfl))) Via.refl e10 Frb (g := (mkF m 29 #[.val (.ref a), .val (.ref b)] [(.ref b), (.long ra)])) rfl rfl (hb hby own_isAfter_29)
      refine own_go (st11 _ (Steps.refl _)) ?_
      show own_Go p e below _ (T11.setTop (mkF m 32 #[.val (.ref a), .val (.ref b)] [(.long rb), (.long ra)]))
      refine own_go (XS.lcmp X11.here hx rfl (hb hby own_isAfter_32) rfl (Steps.refl _)) ?_
      show own_Go p e below _ (T11.setTop (mkF m 33 #[.val (.ref a), .val (.ref b)] [(.int (lcmpW ra rb))]))
      by_cases hc33 : rb < ra
      · refine own_go (XS.ifNo X11.here hx rfl (hb hby own_isAfter_33) rfl (own_tgtJ hc33).2 (Steps.refl _)) ?_
        show own_Go p e below _ (T11.setTop (mkF m 36 #[.val (.ref a), .val (.ref b)] []))
        refine own_go (XS.iconst X11.here hx rfl (hb hby own_isAfter_36) (Steps.refl _)) ?_
        show own_Go p e below _ (T11.setTop (mkF m 37 #[.val (.ref a), .val (.ref b)] [(.int (1 : Int32))]))
        refine own_go (XS.goto X11.here hx rfl (pc0 := 37) (pc' := 41) rfl (hb hby own_isAfter_37) (by decide) (by decide) (Steps.refl _)) ?_
        show own_Go p e below _ (T11.setTop (mkF m 41 #[.val (.ref a), .val (.ref b)] [(.int (1 : Int32))]))
        exact own_retZ X11 hx hlk e11 Bd.returns (hb hby own_isAfter_41) (Or.inr rfl) ⟨congrArg (fun u => some (Value.int u)) ((own_b_t (by simp [hc9, hc21, hc33, own_aft])).symm), rfl, rfl⟩ (by decide) (by decide)
      · refine own_go (XS.ifYes X11.here hx rfl (pc0 := 33) (pc' := 40) rfl (hb hby own_isAfter_33) rfl (own_fgtJ hc33).2 (by decide) (by decide) (Steps.refl _)) ?_
        show own_Go p e below _ (T11.setTop (mkF m 40 #[.val (.ref a), .val (.ref b)] []))
        refine own_go (XS.iconst X11.here hx rfl (hb hby own_isAfter_40) (Steps.refl _)) ?_
        show own_Go p e below _ (T11.setTop (mkF m 41 #[.val (.ref a), .val (.ref b)] [(.int (0 : Int32))]))
        exact own_retZ X11 hx hlk e11 Bd.returns (hb hby own_isAfter_41) (Or.inl rfl) ⟨congrArg (fun u => some (Value.int u)) ((own_b_f (by simp [hc9, hc21, hc33, own_aft])).symm), rfl, rfl⟩ (by decide) (by decide)
    · refine own_go (XS.ifYes X9.here hx rfl (pc0 := 21) (pc' := 40) rfl (hb hby own_isAfter_21) rfl (own_feqJ hc21).2 (by decide) (by decide) (Steps.refl _)) ?_
      show own_Go p e below _ (T9.setTop (mkF m 40 #[.val (.ref a), .val (.ref b)] []))
      refine own_go (XS.iconst X9.here hx rfl (hb hby own_isAfter_40) (Steps.refl _)) ?_
      show own_Go p e below _ (T9.setTop (mkF m 41 #[.val (.ref a), .val (.ref b)] [(.int (0 : Int32))]))
      exact own_retZ X9 hx hlk e9 Bd.returns (hb hby own_isAfter_41) (Or.inl rfl) ⟨congrArg (fun u => some (Value.int u)) ((own_b_f (by simp [hc9, hc21, own_aft])).symm), rfl, rfl⟩ (by decide) (by decide)
theorem own_f12 : plainName "com/example/orderbound/orderbound/store/StampIsAfterPinLaw" = true := by first | (simp [plainName, overriddenIn]; done) | decide +kernel
theorem own_f13 : parseMethodDescriptor "(JJ)V" = some ⟨[.long, .long], none⟩ := by decide +kernel
theorem own_f14 : parseMethodDescriptor "(Lcom/example/orderbound/orderbound/store/Stamp;)Z" = some ⟨[(.object "com/example/orderbound/orderbound/store/Stamp")], some .boolean⟩ := by decide +kernel
theorem own_f15 (m : MethodId) (x0 : Int64) (x1 : Int64) (x2 : Int64) (x3 : Int64) (x4 : Int64) (x5 : Int32) : entryFrame m #[(.long x0), (.long x1), (.long x2), (.long x3), (.long x4), (.int x5)] maxLocals = mkF m 0 #[.val (.long x0), .second, .val (.long x1), .second, .val (.long x2), .second, .val (.long x3), .second, .val (.long x4), .second, .val (.int x5), .unset, .unset, .unset, .unset, .unset, .unset, .unset, .unset, .unset, .unset, .unset, .unset, .unset, .unset, .unset, .unset, .unset, .unset, .unset, .unset, .unset] [] := by first | (simp [entryFrame, mkF, argsToLocals, Value.category, maxLocals]; done) | rfl
set_option maxRecDepth 65536 in
set_option maxHeartbeats 40000000 in
theorem rm_law (l : Launch) (Z : State) (a0 : Array Value) (hw : ∀ d ∈ tables_1, d.before a0 Z = true) (t1 r1 t2 r2 t3 : Int64) (md : Int32) (h0 : Heap) (n0 : Nat) (Z0 : n0 ≤ h0.size)  :
    own_MetL l Z (#[(.long t1), (.long r1), (.long t2), (.long r2), (.long t3), (.int md)]) h0 (fun v h L => v = some (.int 1) ∧ Fr n0 L) := by
  refine MetFree.of_bodySF (plainFor_of_name own_f12) hisR ?_
  intro p e s m args below meth c s₁ Bd hml0 hP hK
  obtain ⟨rfl, hZ, hh⟩ := hP
  have hx := Bd.exec
  have hby := Bd.bytes
  have hlk : meth.locks = false := Bd.notSynchronized
  have hml : c.maxLocals = 32 := hml0
  have hown : s.vm.findClass "com/example/orderbound/orderbound/store/StampIsAfterPinLaw" = some m.cls := findClass_of_methodNamed Bd.named
  have hnm := (name_of_methodNamed Bd.named Bd.method).1
  have X0 : Stand p l e room_1 s m #[(.long t1), (.long r1), (.long t2), (.long r2), (.long t3), (.int md)] below meth c s₁ [] 0 0 := Stand.of_body Bd
  have e0 : s₁.heap = h0 := by rw [← hh, Bd.state]; rfl
  show own_Go p e below (own_G s (fun v h L => v = some (.int 1) ∧ Fr n0 L) room_1.cells room_1.slots) (s₁.setTop (entryFrame m #[(.long t1), (.long r1), (.long t2), (.long r2), (.long t3), (.int md)] maxLocals))
  rw [own_f15]
  show own_Go p e below _ (s₁.setTop (mkF m 0 #[.val (.long t1), .second, .val (.long r1), .second, .val (.long t2), .second, .val (.long r2), .second, .val (.long t3), .second, .val (.int md), .unset, .unset, .unset, .unset, .unset, .unset, .unset, .unset, .unset, .unset, .unset, .unset, .unset, .unset, .unset, .unset, .unset, .unset, .unset, .unset, .unset] []))
  refine own_go (X0.ldc2Long hx hown (mvT hZ (hw _ (List.mem_of_getElem? (i := 0) rfl))) (g := (mkF m 0 #[.val (.long t1), .second, .val (.long r1), .second, .val (.long t2), .second, .val (.long r2), .second, .val (.long t3), .second, .val (.int md), .unset, .unset, .unset, .unset, .unset, .unset, .unset, .unset, .unset, .unset, .unset, .unset, .unset, .unset, .unset, .unset, .unset, .unset, .unset, .unset, .unset] [])) rfl (hb hby at_0) _ (Steps.refl _)) ?_
  show own_Go p e below _ (s₁.setTop (mkF m 3 #[.val (.long t1), .second, .val (.long r1), .second, .val (.long t2), .second, .val (.long r2), .second, .val (.long t3), .second, .val (.int md), .unset, .unset, .unset, .unset, .unset, .unset, .unset, .unset, .unset, .unset, .unset, .unset, .unset, .unset, .unset, .unset, .unset, .unset, .unset, .unset, .unset] [(.long (4611686018427387903 : Int64))]))
  refine own_go (XS.lstore X0.here hx rfl (hb hby at_3) rfl (l' := #[.val (.long t1), .second, .val (.long r1), .second, .val (.long t2), .second, .val (.long r2), .second, .val (.long t3), .second, .val (.int md), .val (.long (4611686018427387903 : Int64)), .second, .unset, .unset, .unset, .unset, .unset, .unset, .unset, .unset, .unset, .unset, .unset, .unset, .unset, .unset, .unset, .unset, .unset, .unset, .unset]) rfl (Steps.refl _)) ?_
  show own_Go p e below _ (s₁.setTop (mkF m 5 #[.val (.long t1), .second, .val (.long r1), .second, .val (.long t2), .second, .val (.long r2), .second, .val (.long t3), .second, .val (.int md), .val (.long (4611686018427387903 : Int64)), .second, .unset, .unset, .unset, .unset, .unset, .unset, .unset, .unset, .unset, .unset, .unset, .unset, .unset, .unset, .unset, .unset, .unset, .unset, .unset] []))
  refine own_go (XS.lloadN X0.here hx rfl (hb hby at_5) rfl (Steps.refl _)) ?_
  show own_Go p e below _ (s₁.setTop (mkF m 6 #[.val (.long t1), .second, .val (.long r1), .second, .val (.long t2), .second, .val (.long r2), .second, .val (.long t3), .second, .val (.int md), .val (.long (4611686018427387903 : Int64)), .second, .unset, .unset, .unset, .unset, .unset, .unset, .unset, .unset, .unset, .unset, .unset, .unset, .unset, .unset, .unset, .unset, .unset, .unset, .unset] [(.long t1)]))
  refine own_go (XS.lload X0.here hx rfl (hb hby at_6) rfl (Steps.refl _)) ?_
  show own_Go p e below _ (s₁.setTop (mkF m 8 #[.val (.long t1), .second, .val (.long r1), .second, .val (.long t2), .second, .val (.long r2), .second, .val (.long t3), .second, .val (.int md), .val (.long (4611686018427387903 : Int64)), .second, .unset, .unset, .unset, .unset, .unset, .unset, .unset, .unset, .unset, .unset, .unset, .unset, .unset, .unset, .unset, .unset, .unset, .unset, .unset] [(.long (4611686018427387903 : Int64)), (.long t1)]))
  refine own_go (XS.land X0.here hx rfl (hb hby at_8) rfl (Steps.refl _)) ?_
  show own_Go p e below _ (s₁.setTop (mkF m 9 #[.val (.long t1), .second, .val (.long r1), .second, .val (.long t2), .second, .val (.long r2), .second, .val (.long t3), .second, .val (.int md), .val (.long (4611686018427387903 : Int64)), .second, .unset, .unset, .unset, .unset, .unset, .unset, .unset, .unset, .unset, .unset, .unset, .unset, .unset, .unset, .unset, .unset, .unset, .unset, .unset] [(.long (t1 &&& (4611686018427387903 : Int64)))]))
  obtain ⟨ta, hta⟩ : ∃ z : Int64, z = (t1 &&& (4611686018427387903 : Int64)) := ⟨_, rfl⟩
  rw [← hta]
  show own_Go p e below _ (s₁.setTop (mkF m 9 #[.val (.long t1), .second, .val (.long r1), .second, .val (.long t2), .second, .val (.long r2), .second, .val (.long t3), .second, .val (.int md), .val (.long (4611686018427387903 : Int64)), .second, .unset, .unset, .unset, .unset, .unset, .unset, .unset, .unset, .unset, .unset, .unset, .unset, .unset, .unset, .unset, .unset, .unset, .unset, .unset] [(.long ta)]))
  have ok_ta : own_ok ta := hta ▸ own_okm t1
  refine own_go (XS.lstore X0.here hx rfl (hb hby at_9) rfl (l' := #[.val (.long t1), .second, .val (.long r1), .second, .val (.long t2), .second, .val (.long r2), .second, .val (.long t3), .second, .val (.int md), .val (.long (4611686018427387903 : Int64)), .second, .val (.long ta), .second, .unset, .unset, .unset, .unset, .unset, .unset, .unset, .unset, .unset, .unset, .unset, .unset, .unset, .unset, .unset, .unset, .unset]) rfl (Steps.refl _)) ?_
  show own_Go p e below _ (s₁.setTop (mkF m 11 #[.val (.long t1), .second, .val (.long r1), .second, .val (.long t2), .second, .val (.long r2), .second, .val (.long t3), .second, .val (.int md), .val (.long (4611686018427387903 : Int64)), .second, .val (.long ta), .second, .unset, .unset, .unset, .unset, .unset, .unset, .unset, .unset, .unset, .unset, .unset, .unset, .unset, .unset, .unset, .unset, .unset] []))
  refine own_go (XS.iload X0.here hx rfl (hb hby at_11) rfl (Steps.refl _)) ?_
  show own_Go p e below _ (s₁.setTop (mkF m 13 #[.val (.long t1), .second, .val (.long r1), .second, .val (.long t2), .second, .val (.long r2), .second, .val (.long t3), .second, .val (.int md), .val (.long (4611686018427387903 : Int64)), .second, .val (.long ta), .second, .unset, .unset, .unset, .unset, .unset, .unset, .unset, .unset, .unset, .unset, .unset, .unset, .unset, .unset, .unset, .unset, .unset] [(.int md)]))
  refine own_go (XS.iconst X0.here hx rfl (hb hby at_13) (Steps.refl _)) ?_
  show own_Go p e below _ (s₁.setTop (mkF m 14 #[.val (.long t1), .second, .val (.long r1), .second, .val (.long t2), .second, .val (.long r2), .second, .val (.long t3), .second, .val (.int md), .val (.long (4611686018427387903 : Int64)), .second, .val (.long ta), .second, .unset, .unset, .unset, .unset, .unset, .unset, .unset, .unset, .unset, .unset, .unset, .unset, .unset, .unset, .unset, .unset, .unset] [(.int (1 : Int32)), (.int md)]))
  refine own_go (XS.iand X0.here hx rfl (hb hby at_14) rfl (Steps.refl _)) ?_
  show own_Go p e below _ (s₁.setTop (mkF m 15 #[.val (.long t1), .second, .val (.long r1), .second, .val (.long t2), .second, .val (.long r2), .second, .val (.long t3), .second, .val (.int md), .val (.long (4611686018427387903 : Int64)), .second, .val (.long ta), .second, .unset, .unset, .unset, .unset, .unset, .unset, .unset, .unset, .unset, .unset, .unset, .unset, .unset, .unset, .unset, .unset, .unset] [(.int (md &&& (1 : Int32)))]))
  suffices J1 : ∀ tb : Int64, own_ok tb → own_Go p e below (own_G s (fun v h L => v = some (.int 1) ∧ Fr n0 L) room_1.cells room_1.slots) (s₁.setTop (mkF m 28 #[.val (.long t1), .second, .val (.long r1), .second, .val (.long t2), .second, .val (.long r2), .second, .val (.long t3), .second, .val (.int md), .val (.long (4611686018427387903 : Int64)), .second, .val (.long ta), .second, .unset, .unset, .unset, .unset, .unset, .unset, .unset, .unset, .unset, .unset, .unset, .unset, .unset, .unset, .unset, .unset, .unset] [(.long tb)])) by
    by_cases hcJ115 : (md &&& (1 : Int32)) = (0 : Int32)
    · refine own_go (XS.ifYes X0.here hx rfl (pc0 := 15) (pc' := 23) rfl (hb hby at_15) rfl ((if0 _ _).trans (teq hcJ115).1) (by decide) (by decide) (Steps.refl _)) ?_
      show own_Go p e below _ (s₁.setTop (mkF m 23 #[.val (.long t1), .second, .val (.long r1), .second, .val (.long t2), .second, .val (.long r2), .second, .val (.long t3), .second, .val (.int md), .val (.long (4611686018427387903 : Int64)), .second, .val (.long ta), .second, .unset, .unset, .unset, .unset, .unset, .unset, .unset, .unset, .unset, .unset, .unset, .unset, .unset, .unset, .unset, .unset, .unset] []))
      refine own_go (XS.lload X0.here hx rfl (hb hby at_23) rfl (Steps.refl _)) ?_
      show own_Go p e below _ (s₁.setTop (mkF m 25 #[.val (.long t1), .second, .val (.long r1), .second, .val (.long t2), .second, .val (.long r2), .second, .val (.long t3), .second, .val (.int md), .val (.long (4611686018427387903 : Int64)), .second, .val (.long ta), .second, .unset, .unset, .unset, .unset, .unset, .unset, .unset, .unset, .unset, .unset, .unset, .unset, .unset, .unset, .unset, .unset, .unset] [(.long t2)]))
      refine own_go (XS.lload X0.here hx rfl (hb hby at_25) rfl (Steps.refl _)) ?_
      show own_Go p e below _ (s₁.setTop (mkF m 27 #[.val (.long t1), .second, .val (.long r1), .second, .val (.long t2), .second, .val (.long r2), .second, .val (.long t3), .second, .val (.int md), .val (.long (4611686018427387903 : Int64)), .second, .val (.long ta), .second, .unset, .unset, .unset, .unset, .unset, .unset, .unset, .unset, .unset, .unset, .unset, .unset, .unset, .unset, .unset, .unset, .unset] [(.long (4611686018427387903 : Int64)), (.long t2)]))
      refine own_go (XS.land X0.here hx rfl (hb hby at_27) rfl (Steps.refl _)) ?_
      show own_Go p e below _ (s₁.setTop (mkF m 28 #[.val (.long t1), .second, .val (.long r1), .second, .val (.long t2), .second, .val (.long r2), .second, .val (.long t3), .second, .val (.int md), .val (.long (4611686018427387903 : Int64)), .second, .val (.long ta), .second, .unset, .unset, .unset, .unset, .unset, .unset, .unset, .unset, .unset, .unset, .unset, .unset, .unset, .unset, .unset, .unset, .unset] [(.long (t2 &&& (4611686018427387903 : Int64)))]))
      exact J1 _ (own_okm _)
    · refine own_go (XS.ifNo X0.here hx rfl (hb hby at_15) rfl ((if0 _ _).trans (feq hcJ115).1) (Steps.refl _)) ?_
      show own_Go p e below _ (s₁.setTop (mkF m 18 #[.val (.long t1), .second, .val (.long r1), .second, .val (.long t2), .second, .val (.long r2), .second, .val (.long t3), .second, .val (.int md), .val (.long (4611686018427387903 : Int64)), .second, .val (.long ta), .second, .unset, .unset, .unset, .unset, .unset, .unset, .unset, .unset, .unset, .unset, .unset, .unset, .unset, .unset, .unset, .unset, .unset] []))
      refine own_go (XS.lload X0.here hx rfl (hb hby at_18) rfl (Steps.refl _)) ?_
      show own_Go p e below _ (s₁.setTop (mkF m 20 #[.val (.long t1), .second, .val (.long r1), .second, .val (.long t2), .second, .val (.long r2), .second, .val (.long t3), .second, .val (.int md), .val (.long (4611686018427387903 : Int64)), .second, .val (.long ta), .second, .unset, .unset, .unset, .unset, .unset, .unset, .unset, .unset, .unset, .unset, .unset, .unset, .unset, .unset, .unset, .unset, .unset] [(.long ta)]))
      refine own_go (XS.goto X0.here hx rfl (pc0 := 20) (pc' := 28) rfl (hb hby at_20) (by decide) (by decide) (Steps.refl _)) ?_
      show own_Go p e below _ (s₁.setTop (mkF m 28 #[.val (.long t1), .second, .val (.long r1), .second, .val (.long t2), .second, .val (.long r2), .second, .val (.long t3), .second, .val (.int md), .val (.long (4611686018427387903 : Int64)), .second, .val (.long ta), .second, .unset, .unset, .unset, .unset, .unset, .unset, .unset, .unset, .unset, .unset, .unset, .unset, .unset, .unset, .unset, .unset, .unset] [(.long ta)]))
      exact J1 _ ok_ta
  intro tb ok_tb
  show own_Go p e below _ (s₁.setTop (mkF m 28 #[.val (.long t1), .second, .val (.long r1), .second, .val (.long t2), .second, .val (.long r2), .second, .val (.long t3), .second, .val (.int md), .val (.long (4611686018427387903 : Int64)), .second, .val (.long ta), .second, .unset, .unset, .unset, .unset, .unset, .unset, .unset, .unset, .unset, .unset, .unset, .unset, .unset, .unset, .unset, .unset, .unset] [(.long tb)]))
  refine own_go (XS.lstore X0.here hx rfl (hb hby at_28) rfl (l' := #[.val (.long t1), .second, .val (.long r1), .second, .val (.long t2), .second, .val (.long r2), .second, .val (.long t3), .second, .val (.int md), .val (.long (4611686018427387903 : Int64)), .second, .val (.long ta), .second, .val (.long tb), .second, .unset, .unset, .unset, .unset, .unset, .unset, .unset, .unset, .unset, .unset, .unset, .unset, .unset, .unset, .unset]) rfl (Steps.refl _)) ?_
  show own_Go p e below _ (s₁.setTop (mkF m 30 #[.val (.long t1), .second, .val (.long r1), .second, .val (.long t2), .second, .val (.long r2), .second, .val (.long t3), .second, .val (.int md), .val (.long (4611686018427387903 : Int64)), .second, .val (.long ta), .second, .val (.long tb), .second, .unset, .unset, .unset, .unset, .unset, .unset, .unset, .unset, .unset, .unset, .unset, .unset, .unset, .unset, .unset] []))
  refine own_go (XS.iload X0.here hx rfl (hb hby at_30) rfl (Steps.refl _)) ?_
  show own_Go p e below _ (s₁.setTop (mkF m 32 #[.val (.long t1), .second, .val (.long r1), .second, .val (.long t2), .second, .val (.long r2), .second, .val (.long t3), .second, .val (.int md), .val (.long (4611686018427387903 : Int64)), .second, .val (.long ta), .second, .val (.long tb), .second, .unset, .unset, .unset, .unset, .unset, .unset, .unset, .unset, .unset, .unset, .unset, .unset, .unset, .unset, .unset] [(.int md)]))
  refine own_go (XS.iconst X0.here hx rfl (hb hby at_32) (Steps.refl _)) ?_
  show own_Go p e below _ (s₁.setTop (mkF m 33 #[.val (.long t1), .second, .val (.long r1), .second, .val (.long t2), .second, .val (.long r2), .second, .val (.long t3), .second, .val (.int md), .val (.long (4611686018427387903 : Int64)), .second, .val (.long ta), .second, .val (.long tb), .second, .unset, .unset, .unset, .unset, .unset, .unset, .unset, .unset, .unset, .unset, .unset, .unset, .unset, .unset, .unset] [(.int (2 : Int32)), (.int md)]))
  refine own_go (XS.iand X0.here hx rfl (hb hby at_33) rfl (Steps.refl _)) ?_
  show own_Go p e below _ (s₁.setTop (mkF m 34 #[.val (.long t1), .second, .val (.long r1), .second, .val (.long t2), .second, .val (.long r2), .second, .val (.long t3), .second, .val (.int md), .val (.long (4611686018427387903 : Int64)), .second, .val (.long ta), .second, .val (.long tb), .second, .unset, .unset, .unset, .unset, .unset, .unset, .unset, .unset, .unset, .unset, .unset, .unset, .unset, .unset, .unset] [(.int (md &&& (2 : Int32)))]))
  suffices J2 : ∀ rb : Int64, True → own_Go p e below (own_G s (fun v h L => v = some (.int 1) ∧ Fr n0 L) room_1.cells room_1.slots) (s₁.setTop (mkF m 43 #[.val (.long t1), .second, .val (.long r1), .second, .val (.long t2), .second, .val (.long r2), .second, .val (.long t3), .second, .val (.int md), .val (.long (4611686018427387903 : Int64)), .second, .val (.long ta), .second, .val (.long tb), .second, .unset, .unset, .unset, .unset, .unset, .unset, .unset, .unset, .unset, .unset, .unset, .unset, .unset, .unset, .unset] [(.long rb)])) by
    by_cases hcJ234 : (md &&& (2 : Int32)) = (0 : Int32)
    · refine own_go (XS.ifYes X0.here hx rfl (pc0 := 34) (pc' := 41) rfl (hb hby at_34) rfl ((if0 _ _).trans (teq hcJ234).1) (by decide) (by decide) (Steps.refl _)) ?_
      show own_Go p e below _ (s₁.setTop (mkF m 41 #[.val (.long t1), .second, .val (.long r1), .second, .val (.long t2), .second, .val (.long r2), .second, .val (.long t3), .second, .val (.int md), .val (.long (4611686018427387903 : Int64)), .second, .val (.long ta), .second, .val (.long tb), .second, .unset, .unset, .unset, .unset, .unset, .unset, .unset, .unset, .unset, .unset, .unset, .unset, .unset, .unset, .unset] []))
      refine own_go (XS.lload X0.here hx rfl (hb hby at_41) rfl (Steps.refl _)) ?_
      show own_Go p e below _ (s₁.setTop (mkF m 43 #[.val (.long t1), .second, .val (.long r1), .second, .val (.long t2), .second, .val (.long r2), .second, .val (.long t3), .second, .val (.int md), .val (.long (4611686018427387903 : Int64)), .second, .val (.long ta), .second, .val (.long tb), .second, .unset, .unset, .unset, .unset, .unset, .unset, .unset, .unset, .unset, .unset, .unset, .unset, .unset, .unset, .unset] [(.long r2)]))
      exact J2 _ trivial
    · refine own_go (XS.ifNo X0.here hx rfl (hb hby at_34) rfl ((if0 _ _).trans (feq hcJ234).1) (Steps.refl _)) ?_
      show own_Go p e below _ (s₁.setTop (mkF m 37 #[.val (.long t1), .second, .val (.long r1), .second, .val (.long t2), .second, .val (.long r2), .second, .val (.long t3), .second, .val (.int md), .val (.long (4611686018427387903 : Int64)), .second, .val (.long ta), .second, .val (.long tb), .second, .unset, .unset, .unset, .unset, .unset, .unset, .unset, .unset, .unset, .unset, .unset, .unset, .unset, .unset, .unset] []))
      refine own_go (XS.lloadN X0.here hx rfl (hb hby at_37) rfl (Steps.refl _)) ?_
      show own_Go p e below _ (s₁.setTop (mkF m 38 #[.val (.long t1), .second, .val (.long r1), .second, .val (.long t2), .second, .val (.long r2), .second, .val (.long t3), .second, .val (.int md), .val (.long (4611686018427387903 : Int64)), .second, .val (.long ta), .second, .val (.long tb), .second, .unset, .unset, .unset, .unset, .unset, .unset, .unset, .unset, .unset, .unset, .unset, .unset, .unset, .unset, .unset] [(.long r1)]))
      refine own_go (XS.goto X0.here hx rfl (pc0 := 38) (pc' := 43) rfl (hb hby at_38) (by decide) (by decide) (Steps.refl _)) ?_
      show own_Go p e below _ (s₁.setTop (mkF m 43 #[.val (.long t1), .second, .val (.long r1), .second, .val (.long t2), .second, .val (.long r2), .second, .val (.long t3), .second, .val (.int md), .val (.long (4611686018427387903 : Int64)), .second, .val (.long ta), .second, .val (.long tb), .second, .unset, .unset, .unset, .unset, .unset, .unset, .unset, .unset, .unset, .unset, .unset, .unset, .unset, .unset, .unset] [(.long r1)]))
      exact J2 _ trivial
  intro rb ok_rb
  show own_Go p e below _ (s₁.setTop (mkF m 43 #[.val (.long t1), .second, .val (.long r1), .second, .val (.long t2), .second, .val (.long r2), .second, .val (.long t3), .second, .val (.int md), .val (.long (4611686018427387903 : Int64)), .second, .val (.long ta), .second, .val (.long tb), .second, .unset, .unset, .unset, .unset, .unset, .unset, .unset, .unset, .unset, .unset, .unset, .unset, .unset, .unset, .unset] [(.long rb)]))
  refine own_go (XS.lstore X0.here hx rfl (hb hby at_43) rfl (l' := #[.val (.long t1), .second, .val (.long r1), .second, .val (.long t2), .second, .val (.long r2), .second, .val (.long t3), .second, .val (.int md), .val (.long (4611686018427387903 : Int64)), .second, .val (.long ta), .second, .val (.long tb), .second, .val (.long rb), .second, .unset, .unset, .unset, .unset, .unset, .unset, .unset, .unset, .unset, .unset, .unset, .unset, .unset]) rfl (Steps.refl _)) ?_
  show own_Go p e below _ (s₁.setTop (mkF m 45 #[.val (.long t1), .second, .val (.long r1), .second, .val (.long t2), .second, .val (.long r2), .second, .val (.long t3), .second, .val (.int md), .val (.long (4611686018427387903 : Int64)), .second, .val (.long ta), .second, .val (.long tb), .second, .val (.long rb), .second, .unset, .unset, .unset, .unset, .unset, .unset, .unset, .unset, .unset, .unset, .unset, .unset, .unset] []))
  refine own_go (XS.iload X0.here hx rfl (hb hby at_45) rfl (Steps.refl _)) ?_
  show own_Go p e below _ (s₁.setTop (mkF m 47 #[.val (.long t1), .second, .val (.long r1), .second, .val (.long t2), .second, .val (.long r2), .second, .val (.long t3), .second, .val (.int md), .val (.long (4611686018427387903 : Int64)), .second, .val (.long ta), .second, .val (.long tb), .second, .val (.long rb), .second, .unset, .unset, .unset, .unset, .unset, .unset, .unset, .unset, .unset, .unset, .unset, .unset, .unset] [(.int md)]))
  refine own_go (XS.iconst X0.here hx rfl (hb hby at_47) (Steps.refl _)) ?_
  show own_Go p e below _ (s₁.setTop (mkF m 48 #[.val (.long t1), .second, .val (.long r1), .second, .val (.long t2), .second, .val (.long r2), .second, .val (.long t3), .second, .val (.int md), .val (.long (4611686018427387903 : Int64)), .second, .val (.long ta), .second, .val (.long tb), .second, .val (.long rb), .second, .unset, .unset, .unset, .unset, .unset, .unset, .unset, .unset, .unset, .unset, .unset, .unset, .unset] [(.int (4 : Int32)), (.int md)]))
  refine own_go (XS.iand X0.here hx rfl (hb hby at_48) rfl (Steps.refl _)) ?_
  show own_Go p e below _ (s₁.setTop (mkF m 49 #[.val (.long t1), .second, .val (.long r1), .second, .val (.long t2), .second, .val (.long r2), .second, .val (.long t3), .second, .val (.int md), .val (.long (4611686018427387903 : Int64)), .second, .val (.long ta), .second, .val (.long tb), .second, .val (.long rb), .second, .unset, .unset, .unset, .unset, .unset, .unset, .unset, .unset, .unset, .unset, .unset, .unset, .unset] [(.int (md &&& (4 : Int32)))]))
  suffices J3 : ∀ tc : Int64, own_ok tc → own_Go p e below (own_G s (fun v h L => v = some (.int 1) ∧ Fr n0 L) room_1.cells room_1.slots) (s₁.setTop (mkF m 62 #[.val (.long t1), .second, .val (.long r1), .second, .val (.long t2), .second, .val (.long r2), .second, .val (.long t3), .second, .val (.int md), .val (.long (4611686018427387903 : Int64)), .second, .val (.long ta), .second, .val (.long tb), .second, .val (.long rb), .second, .unset, .unset, .unset, .unset, .unset, .unset, .unset, .unset, .unset, .unset, .unset, .unset, .unset] [(.long tc)])) by
    by_cases hcJ349 : (md &&& (4 : Int32)) = (0 : Int32)
    · refine own_go (XS.ifYes X0.here hx rfl (pc0 := 49) (pc' := 57) rfl (hb hby at_49) rfl ((if0 _ _).trans (teq hcJ349).1) (by decide) (by decide) (Steps.refl _)) ?_
      show own_Go p e below _ (s₁.setTop (mkF m 57 #[.val (.long t1), .second, .val (.long r1), .second, .val (.long t2), .second, .val (.long r2), .second, .val (.long t3), .second, .val (.int md), .val (.long (4611686018427387903 : Int64)), .second, .val (.long ta), .second, .val (.long tb), .second, .val (.long rb), .second, .unset, .unset, .unset, .unset, .unset, .unset, .unset, .unset, .unset, .unset, .unset, .unset, .unset] []))
      refine own_go (XS.lload X0.here hx rfl (hb hby at_57) rfl (Steps.refl _)) ?_
      show own_Go p e below _ (s₁.setTop (mkF m 59 #[.val (.long t1), .second, .val (.long r1), .second, .val (.long t2), .second, .val (.long r2), .second, .val (.long t3), .second, .val (.int md), .val (.long (4611686018427387903 : Int64)), .second, .val (.long ta), .second, .val (.long tb), .second, .val (.long rb), .second, .unset, .unset, .unset, .unset, .unset, .unset, .unset, .unset, .unset, .unset, .unset, .unset, .unset] [(.long t3)]))
      refine own_go (XS.lload X0.here hx rfl (hb hby at_59) rfl (Steps.refl _)) ?_
      show own_Go p e below _ (s₁.setTop (mkF m 61 #[.val (.long t1), .second, .val (.long r1), .second, .val (.long t2), .second, .val (.long r2), .second, .val (.long t3), .second, .val (.int md), .val (.long (4611686018427387903 : Int64)), .second, .val (.long ta), .second, .val (.long tb), .second, .val (.long rb), .second, .unset, .unset, .unset, .unset, .unset, .unset, .unset, .unset, .unset, .unset, .unset, .unset, .unset] [(.long (4611686018427387903 : Int64)), (.long t3)]))
      refine own_go (XS.land X0.here hx rfl (hb hby at_61) rfl (Steps.refl _)) ?_
      show own_Go p e below _ (s₁.setTop (mkF m 62 #[.val (.long t1), .second, .val (.long r1), .second, .val (.long t2), .second, .val (.long r2), .second, .val (.long t3), .second, .val (.int md), .val (.long (4611686018427387903 : Int64)), .second, .val (.long ta), .second, .val (.long tb), .second, .val (.long rb), .second, .unset, .unset, .unset, .unset, .unset, .unset, .unset, .unset, .unset, .unset, .unset, .unset, .unset] [(.long (t3 &&& (4611686018427387903 : Int64)))]))
      exact J3 _ (own_okm _)
    · refine own_go (XS.ifNo X0.here hx rfl (hb hby at_49) rfl ((if0 _ _).trans (feq hcJ349).1) (Steps.refl _)) ?_
      show own_Go p e below _ (s₁.setTop (mkF m 52 #[.val (.long t1), .second, .val (.long r1), .second, .val (.long t2), .second, .val (.long r2), .second, .val (.long t3), .second, .val (.int md), .val (.long (4611686018427387903 : Int64)), .second, .val (.long ta), .second, .val (.long tb), .second, .val (.long rb), .second, .unset, .unset, .unset, .unset, .unset, .unset, .unset, .unset, .unset, .unset, .unset, .unset, .unset] []))
      refine own_go (XS.lload X0.here hx rfl (hb hby at_52) rfl (Steps.refl _)) ?_
      show own_Go p e below _ (s₁.setTop (mkF m 54 #[.val (.long t1), .second, .val (.long r1), .second, .val (.long t2), .second, .val (.long r2), .second, .val (.long t3), .second, .val (.int md), .val (.long (4611686018427387903 : Int64)), .second, .val (.long ta), .second, .val (.long tb), .second, .val (.long rb), .second, .unset, .unset, .unset, .unset, .unset, .unset, .unset, .unset, .unset, .unset, .unset, .unset, .unset] [(.long tb)]))
      refine own_go (XS.goto X0.here hx rfl (pc0 := 54) (pc' := 62) rfl (hb hby at_54) (by decide) (by decide) (Steps.refl _)) ?_
      show own_Go p e below _ (s₁.setTop (mkF m 62 #[.val (.long t1), .second, .val (.long r1), .second, .val (.long t2), .second, .val (.long r2), .second, .val (.long t3), .second, .val (.int md), .val (.long (4611686018427387903 : Int64)), .second, .val (.long ta), .second, .val (.long tb), .second, .val (.long rb), .second, .unset, .unset, .unset, .unset, .unset, .unset, .unset, .unset, .unset, .unset, .unset, .unset, .unset] [(.long tb)]))
      exact J3 _ ok_tb
  intro tc ok_tc
  show own_Go p e below _ (s₁.setTop (mkF m 62 #[.val (.long t1), .second, .val (.long r1), .second, .val (.long t2), .second, .val (.long r2), .second, .val (.long t3), .second, .val (.int md), .val (.long (4611686018427387903 : Int64)), .second, .val (.long ta), .second, .val (.long tb), .second, .val (.long rb), .second, .unset, .unset, .unset, .unset, .unset, .unset, .unset, .unset, .unset, .unset, .unset, .unset, .unset] [(.long tc)]))
  refine own_go (XS.lstore X0.here hx rfl (hb hby at_62) rfl (l' := #[.val (.long t1), .second, .val (.long r1), .second, .val (.long t2), .second, .val (.long r2), .second, .val (.long t3), .second, .val (.int md), .val (.long (4611686018427387903 : Int64)), .second, .val (.long ta), .second, .val (.long tb), .second, .val (.long rb), .second, .val (.long tc), .second, .unset, .unset, .unset, .unset, .unset, .unset, .unset, .unset, .unset, .unset, .unset]) rfl (Steps.refl _)) ?_
  show own_Go p e below _ (s₁.setTop (mkF m 64 #[.val (.long t1), .second, .val (.long r1), .second, .val (.long t2), .second, .val (.long r2), .second, .val (.long t3), .second, .val (.int md), .val (.long (4611686018427387903 : Int64)), .second, .val (.long ta), .second, .val (.long tb), .second, .val (.long rb), .second, .val (.long tc), .second, .unset, .unset, .unset, .unset, .unset, .unset, .unset, .unset, .unset, .unset, .unset] []))
  refine own_go (XS.iload X0.here hx rfl (hb hby at_64) rfl (Steps.refl _)) ?_
  show own_Go p e below _ (s₁.setTop (mkF m 66 #[.val (.long t1), .second, .val (.long r1), .second, .val (.long t2), .second, .val (.long r2), .second, .val (.long t3), .second, .val (.int md), .val (.long (4611686018427387903 : Int64)), .second, .val (.long ta), .second, .val (.long tb), .second, .val (.long rb), .second, .val (.long tc), .second, .unset, .unset, .unset, .unset, .unset, .unset, .unset, .unset, .unset, .unset, .unset] [(.int md)]))
  refine own_go (XS.bipush X0.here hx rfl (hb hby at_66) (Steps.refl _)) ?_
  show own_Go p e below _ (s₁.setTop (mkF m 68 #[.val (.long t1), .second, .val (.long r1), .second, .val (.long t2), .second, .val (.long r2), .second, .val (.long t3), .second, .val (.int md), .val (.long (4611686018427387903 : Int64)), .second, .val (.long ta), .second, .val (.long tb), .second, .val (.long rb), .second, .val (.long tc), .second, .unset, .unset, .unset, .unset, .unset, .unset, .unset, .unset, .unset, .unset, .unset] [(.int (8 : Int32)), (.int md)]))
  refine own_go (XS.iand X0.here hx rfl (hb hby at_68) rfl (Steps.refl _)) ?_
  show own_Go p e below _ (s₁.setTop (mkF m 69 #[.val (.long t1), .second, .val (.long r1), .second, .val (.long t2), .second, .val (.long r2), .second, .val (.long t3), .second, .val (.int md), .val (.long (4611686018427387903 : Int64)), .second, .val (.long ta), .second, .val (.long tb), .second, .val (.long rb), .second, .val (.long tc), .second, .unset, .unset, .unset, .unset, .unset, .unset, .unset, .unset, .unset, .unset, .unset] [(.int (md &&& (8 : Int32)))]))
  suffices J4 : ∀ rc : Int64, True → own_Go p e below (own_G s (fun v h L => v = some (.int 1) ∧ Fr n0 L) room_1.cells room_1.slots) (s₁.setTop (mkF m 79 #[.val (.long t1), .second, .val (.long r1), .second, .val (.long t2), .second, .val (.long r2), .second, .val (.long t3), .second, .val (.int md), .val (.long (4611686018427387903 : Int64)), .second, .val (.long ta), .second, .val (.long tb), .second, .val (.long rb), .second, .val (.long tc), .second, .unset, .unset, .unset, .unset, .unset, .unset, .unset, .unset, .unset, .unset, .unset] [(.long rc)])) by
    by_cases hcJ469 : (md &&& (8 : Int32)) = (0 : Int32)
    · refine own_go (XS.ifYes X0.here hx rfl (pc0 := 69) (pc' := 77) rfl (hb hby at_69) rfl ((if0 _ _).trans (teq hcJ469).1) (by decide) (by decide) (Steps.refl _)) ?_
      show own_Go p e below _ (s₁.setTop (mkF m 77 #[.val (.long t1), .second, .val (.long r1), .second, .val (.long t2), .second, .val (.long r2), .second, .val (.long t3), .second, .val (.int md), .val (.long (4611686018427387903 : Int64)), .second, .val (.long ta), .second, .val (.long tb), .second, .val (.long rb), .second, .val (.long tc), .second, .unset, .unset, .unset, .unset, .unset, .unset, .unset, .unset, .unset, .unset, .unset] []))
      refine own_go (XS.lload X0.here hx rfl (hb hby at_77) rfl (Steps.refl _)) ?_
      show own_Go p e below _ (s₁.setTop (mkF m 79 #[.val (.long t1), .second, .val (.long r1), .second, .val (.long t2), .second, .val (.long r2), .second, .val (.long t3), .second, .val (.int md), .val (.long (4611686018427387903 : Int64)), .second, .val (.long ta), .second, .val (.long tb), .second, .val (.long rb), .second, .val (.long tc), .second, .unset, .unset, .unset, .unset, .unset, .unset, .unset, .unset, .unset, .unset, .unset] [(.long t3)]))
      exact J4 _ trivial
    · refine own_go (XS.ifNo X0.here hx rfl (hb hby at_69) rfl ((if0 _ _).trans (feq hcJ469).1) (Steps.refl _)) ?_
      show own_Go p e below _ (s₁.setTop (mkF m 72 #[.val (.long t1), .second, .val (.long r1), .second, .val (.long t2), .second, .val (.long r2), .second, .val (.long t3), .second, .val (.int md), .val (.long (4611686018427387903 : Int64)), .second, .val (.long ta), .second, .val (.long tb), .second, .val (.long rb), .second, .val (.long tc), .second, .unset, .unset, .unset, .unset, .unset, .unset, .unset, .unset, .unset, .unset, .unset] []))
      refine own_go (XS.lload X0.here hx rfl (hb hby at_72) rfl (Steps.refl _)) ?_
      show own_Go p e below _ (s₁.setTop (mkF m 74 #[.val (.long t1), .second, .val (.long r1), .second, .val (.long t2), .second, .val (.long r2), .second, .val (.long t3), .second, .val (.int md), .val (.long (4611686018427387903 : Int64)), .second, .val (.long ta), .second, .val (.long tb), .second, .val (.long rb), .second, .val (.long tc), .second, .unset, .unset, .unset, .unset, .unset, .unset, .unset, .unset, .unset, .unset, .unset] [(.long rb)]))
      refine own_go (XS.goto X0.here hx rfl (pc0 := 74) (pc' := 79) rfl (hb hby at_74) (by decide) (by decide) (Steps.refl _)) ?_
      show own_Go p e below _ (s₁.setTop (mkF m 79 #[.val (.long t1), .second, .val (.long r1), .second, .val (.long t2), .second, .val (.long r2), .second, .val (.long t3), .second, .val (.int md), .val (.long (4611686018427387903 : Int64)), .second, .val (.long ta), .second, .val (.long tb), .second, .val (.long rb), .second, .val (.long tc), .second, .unset, .unset, .unset, .unset, .unset, .unset, .unset, .unset, .unset, .unset, .unset] [(.long rb)]))
      exact J4 _ trivial
  intro rc ok_rc
  show own_Go p e below _ (s₁.setTop (mkF m 79 #[.val (.long t1), .second, .val (.long r1), .second, .val (.long t2), .second, .val (.long r2), .second, .val (.long t3), .second, .val (.int md), .val (.long (4611686018427387903 : Int64)), .second, .val (.long ta), .second, .val (.long tb), .second, .val (.long rb), .second, .val (.long tc), .second, .unset, .unset, .unset, .unset, .unset, .unset, .unset, .unset, .unset, .unset, .unset] [(.long rc)]))
  refine own_go (XS.lstore X0.here hx rfl (hb hby at_79) rfl (l' := #[.val (.long t1), .second, .val (.long r1), .second, .val (.long t2), .second, .val (.long r2), .second, .val (.long t3), .second, .val (.int md), .val (.long (4611686018427387903 : Int64)), .second, .val (.long ta), .second, .val (.long tb), .second, .val (.long rb), .second, .val (.long tc), .second, .val (.long rc), .second, .unset, .unset, .unset, .unset, .unset, .unset, .unset, .unset, .unset]) rfl (Steps.refl _)) ?_
  show own_Go p e below _ (s₁.setTop (mkF m 81 #[.val (.long t1), .second, .val (.long r1), .second, .val (.long t2), .second, .val (.long r2), .second, .val (.long t3), .second, .val (.int md), .val (.long (4611686018427387903 : Int64)), .second, .val (.long ta), .second, .val (.long tb), .second, .val (.long rb), .second, .val (.long tc), .second, .val (.long rc), .second, .unset, .unset, .unset, .unset, .unset, .unset, .unset, .unset, .unset] []))
  obtain ⟨T12, h12, b12, g12, X12, e12, E12, A12, D12, st12⟩ := own_newO X0 hx hZ hown (hw _ (List.mem_of_getElem? (i := 1) rfl)) (hw _ (List.mem_of_getElem? (i := 2) rfl)) (hw _ (List.mem_of_getElem? (i := 3) rfl)) e0 (g := (mkF m 81 #[.val (.long t1), .second, .val (.long r1), .second, .val (.long t2), .second, .val (.long r2), .second, .val (.long t3), .second, .val (.int md), .val (.long (4611686018427387903 : Int64)), .second, .val (.long ta), .second, .val (.long tb), .second, .val (.long rb), .second, .val (.long tc), .second, .val (.long rc), .second, .unset, .unset, .unset, .unset, .unset, .unset, .unset, .unset, .unset] [])) rfl (hb hby at_81) (by decide) (by decide)
  have ge_b12 : n0 ≤ b12 := Nat.le_trans Z0 (Nat.le_of_eq g12.symm)
  have Zl12 : n0 ≤ h12.size := Nat.le_trans Z0 E12.1
  have F12_time : Fld Z h12 b12 "com/example/orderbound/orderbound/store/Stamp" "time" "J" (.long (0 : Int64)) := D12 (Or.inr (hw _ (List.mem_of_getElem? (i := 20) rfl))) (ty := .long) (by decide)
  have F12_replica : Fld Z h12 b12 "com/example/orderbound/orderbound/store/Stamp" "replica" "J" (.long (0 : Int64)) := D12 (Or.inr (hw _ (List.mem_of_getElem? (i := 22) rfl))) (ty := .long) (by decide)
  refine own_go st12 ?_
  show own_Go p e below _ (T12.setTop (mkF m 84 #[.val (.long t1), .second, .val (.long r1), .second, .val (.long t2), .second, .val (.long r2), .second, .val (.long t3), .second, .val (.int md), .val (.long (4611686018427387903 : Int64)), .second, .val (.long ta), .second, .val (.long tb), .second, .val (.long rb), .second, .val (.long tc), .second, .val (.long rc), .second, .unset, .unset, .unset, .unset, .unset, .unset, .unset, .unset, .unset] [(.ref b12)]))
  refine own_go (XS.dup X12.here hx rfl (hb hby at_84) rfl rfl (Steps.refl _)) ?_
  show own_Go p e below _ (T12.setTop (mkF m 85 #[.val (.long t1), .second, .val (.long r1), .second, .val (.long t2), .second, .val (.long r2), .second, .val (.long t3), .second, .val (.int md), .val (.long (4611686018427387903 : Int64)), .second, .val (.long ta), .second, .val (.long tb), .second, .val (.long rb), .second, .val (.long tc), .second, .val (.long rc), .second, .unset, .unset, .unset, .unset, .unset, .unset, .unset, .unset, .unset] [(.ref b12), (.ref b12)]))
  refine own_go (XS.lload X12.here hx rfl (hb hby at_85) rfl (Steps.refl _)) ?_
  show own_Go p e below _ (T12.setTop (mkF m 87 #[.val (.long t1), .second, .val (.long r1), .second, .val (.long t2), .second, .val (.long r2), .second, .val (.long t3), .second, .val (.int md), .val (.long (4611686018427387903 : Int64)), .second, .val (.long ta), .second, .val (.long tb), .second, .val (.long rb), .second, .val (.long tc), .second, .val (.long rc), .second, .unset, .unset, .unset, .unset, .unset, .unset, .unset, .unset, .unset] [(.long ta), (.ref b12), (.ref b12)]))
  refine own_go (XS.lloadN X12.here hx rfl (hb hby at_87) rfl (Steps.refl _)) ?_
  show own_Go p e below _ (T12.setTop (mkF m 88 #[.val (.long t1), .second, .val (.long r1), .second, .val (.long t2), .second, .val (.long r2), .second, .val (.long t3), .second, .val (.int md), .val (.long (4611686018427387903 : Int64)), .second, .val (.long ta), .second, .val (.long tb), .second, .val (.long rb), .second, .val (.long tc), .second, .val (.long rc), .second, .unset, .unset, .unset, .unset, .unset, .unset, .unset, .unset, .unset] [(.long r1), (.long ta), (.ref b12), (.ref b12)]))
  obtain ⟨_, _, ⟨T13, L13, k13, n13⟩, -, X13, ⟨Lc13, hQ13, l13, y13, z13⟩, st13⟩ := X12.specialBack hx (y := (⟨"com/example/orderbound/orderbound/store/Stamp", "<init>", "(JJ)V"⟩ : MethodName)) rfl hown (mvT hZ (hw _ (List.mem_of_getElem? (i := 4) rfl))) (mvT hZ (hw _ (List.mem_of_getElem? (i := 5) rfl))) (mvT hZ (hw _ (List.mem_of_getElem? (i := 6) rfl))) (by decide) (own_pays (W := 1) (rm_init l Z a0 hw b12 ta r1 h12 n0 Zl12 ok_ta A12 ge_b12 F12_time F12_replica) hZ (hw _ (List.mem_of_getElem? (i := 6) rfl)) (hw _ (List.mem_of_getElem? (i := 3) rfl)) (by decide) (by decide)) (g := (mkF m 88 #[.val (.long t1), .second, .val (.long r1), .second, .val (.long t2), .second, .val (.long r2), .second, .val (.long t3), .second, .val (.int md), .val (.long (4611686018427387903 : Int64)), .second, .val (.long ta), .second, .val (.long tb), .second, .val (.long rb), .second, .val (.long tc), .second, .val (.long rc), .second, .unset, .unset, .unset, .unset, .unset, .unset, .unset, .unset, .unset] [(.long r1), (.long ta), (.ref b12), (.ref b12)])) rfl (by rw [hml]; rfl) (Steps.refl _) (a := b12) (argsL := [(.long ta), (.long r1)]) (rest := [(.ref b12)]) (lenOf own_f13 rfl) rfl (by show 2 * 0 + _ ≤ _; exact Nat.le_of_eq rfl) (hb hby at_88) (fun _ _ => ⟨rfl, e12, (by decide : 1 + 0 ≤ _), (by decide : 2 + 0 ≤ _)⟩)
  dsimp only [Pt.U, Pt.locs, Pt.cells, Pt.slots] at X13 l13 y13 z13 st13 hQ13
  subst l13 y13 z13
  obtain ⟨h13, e13⟩ : ∃ z, T13.heap = z := ⟨_, rfl⟩
  rw [e13] at hQ13
  obtain ⟨rfl, Nq13, K13, Ft13, Fr13⟩ := hQ13
  have N13 := Fr.app (Fr.nil n0) Nq13
  have Zl13 : n0 ≤ h13.size := Nat.le_trans Zl12 K13.1
  refine own_go st13 ?_
  show own_Go p e below _ (T13.setTop (mkF m 91 #[.val (.long t1), .second, .val (.long r1), .second, .val (.long t2), .second, .val (.long r2), .second, .val (.long t3), .second, .val (.int md), .val (.long (4611686018427387903 : Int64)), .second, .val (.long ta), .second, .val (.long tb), .second, .val (.long rb), .second, .val (.long tc), .second, .val (.long rc), .second, .unset, .unset, .unset, .unset, .unset, .unset, .unset, .unset, .unset] [(.ref b12)]))
  refine own_go (XS.astore X13.here hx rfl (hb hby at_91) rfl rfl (l' := #[.val (.long t1), .second, .val (.long r1), .second, .val (.long t2), .second, .val (.long r2), .second, .val (.long t3), .second, .val (.int md), .val (.long (4611686018427387903 : Int64)), .second, .val (.long ta), .second, .val (.long tb), .second, .val (.long rb), .second, .val (.long tc), .second, .val (.long rc), .second, .val (.ref b12), .unset, .unset, .unset, .unset, .unset, .unset, .unset, .unset]) rfl (Steps.refl _)) ?_
  show own_Go p e below _ (T13.setTop (mkF m 93 #[.val (.long t1), .second, .val (.long r1), .second, .val (.long t2), .second, .val (.long r2), .second, .val (.long t3), .second, .val (.int md), .val (.long (4611686018427387903 : Int64)), .second, .val (.long ta), .second, .val (.long tb), .second, .val (.long rb), .second, .val (.long tc), .second, .val (.long rc), .second, .val (.ref b12), .unset, .unset, .unset, .unset, .unset, .unset, .unset, .unset] []))
  obtain ⟨T14, h14, b14, g14, X14, e14, E14, A14, D14, st14⟩ := own_newO X13 hx hZ hown (hw _ (List.mem_of_getElem? (i := 1) rfl)) (hw _ (List.mem_of_getElem? (i := 2) rfl)) (hw _ (List.mem_of_getElem? (i := 3) rfl)) e13 (g := (mkF m 93 #[.val (.long t1), .second, .val (.long r1), .second, .val (.long t2), .second, .val (.long r2), .second, .val (.long t3), .second, .val (.int md), .val (.long (4611686018427387903 : Int64)), .second, .val (.long ta), .second, .val (.long tb), .second, .val (.long rb), .second, .val (.long tc), .second, .val (.long rc), .second, .val (.ref b12), .unset, .unset, .unset, .unset, .unset, .unset, .unset, .unset] [])) rfl (hb hby at_93) (by decide) (by decide)
  have ne_b12_b14 : b12 ≠ b14 := own_born (A12.keep K13).lt g14
  have ge_b14 : n0 ≤ b14 := Nat.le_trans Zl13 (Nat.le_of_eq g14.symm)
  have Zl14 : n0 ≤ h14.size := Nat.le_trans Zl13 E14.1
  have F14_time : Fld Z h14 b14 "com/example/orderbound/orderbound/store/Stamp" "time" "J" (.long (0 : Int64)) := D14 (Or.inr (hw _ (List.mem_of_getElem? (i := 20) rfl))) (ty := .long) (by decide)
  have F14_replica : Fld Z h14 b14 "com/example/orderbound/orderbound/store/Stamp" "replica" "J" (.long (0 : Int64)) := D14 (Or.inr (hw _ (List.mem_of_getElem? (i := 22) rfl))) (ty := .long) (by decide)
  refine own_go st14 ?_
  show own_Go p e below _ (T14.setTop (mkF m 96 #[.val (.long t1), .second, .val (.long r1), .second, .val (.long t2), .second, .val (.long r2), .second, .val (.long t3), .second, .val (.int md), .val (.long (4611686018427387903 : Int64)), .second, .val (.long ta), .second, .val (.long tb), .second, .val (.long rb), .second, .val (.long tc), .second, .val (.long rc), .second, .val (.ref b12), .unset, .unset, .unset, .unset, .unset, .unset, .unset, .unset] [(.ref b14)]))
  refine own_go (XS.dup X14.here hx rfl (hb hby at_96) rfl rfl (Steps.refl _)) ?_
  show own_Go p e below _ (T14.setTop (mkF m 97 #[.val (.long t1), .second, .val (.long r1), .second, .val (.long t2), .second, .val (.long r2), .second, .val (.long t3), .second, .val (.int md), .val (.long (4611686018427387903 : Int64)), .second, .val (.long ta), .second, .val (.long tb), .second, .val (.long rb), .second, .val (.long tc), .second, .val (.long rc), .second, .val (.ref b12), .unset, .unset, .unset, .unset, .unset, .unset, .unset, .unset] [(.ref b14), (.ref b14)]))
  refine own_go (XS.lload X14.here hx rfl (hb hby at_97) rfl (Steps.refl _)) ?_
  show own_Go p e below _ (T14.setTop (mkF m 99 #[.val (.long t1), .second, .val (.long r1), .second, .val (.long t2), .second, .val (.long r2), .second, .val (.long t3), .second, .val (.int md), .val (.long (4611686018427387903 : Int64)), .second, .val (.long ta), .second, .val (.long tb), .second, .val (.long rb), .second, .val (.long tc), .second, .val (.long rc), .second, .val (.ref b12), .unset, .unset, .unset, .unset, .unset, .unset, .unset, .unset] [(.long tb), (.ref b14), (.ref b14)]))
  refine own_go (XS.lload X14.here hx rfl (hb hby at_99) rfl (Steps.refl _)) ?_
  show own_Go p e below _ (T14.setTop (mkF m 101 #[.val (.long t1), .second, .val (.long r1), .second, .val (.long t2), .second, .val (.long r2), .second, .val (.long t3), .second, .val (.int md), .val (.long (4611686018427387903 : Int64)), .second, .val (.long ta), .second, .val (.long tb), .second, .val (.long rb), .second, .val (.long tc), .second, .val (.long rc), .second, .val (.ref b12), .unset, .unset, .unset, .unset, .unset, .unset, .unset, .unset] [(.long rb), (.long tb), (.ref b14), (.ref b14)]))
  obtain ⟨_, _, ⟨T15, L15, k15, n15⟩, -, X15, ⟨Lc15, hQ15, l15, y15, z15⟩, st15⟩ := X14.specialBack hx (y := (⟨"com/example/orderbound/orderbound/store/Stamp", "<init>", "(JJ)V"⟩ : MethodName)) rfl hown (mvT hZ (hw _ (List.mem_of_getElem? (i := 4) rfl))) (mvT hZ (hw _ (List.mem_of_getElem? (i := 5) rfl))) (mvT hZ (hw _ (List.mem_of_getElem? (i := 6) rfl))) (by decide) (own_pays (W := 1) (rm_init l Z a0 hw b14 tb rb h14 n0 Zl14 ok_tb A14 ge_b14 F14_time F14_replica) hZ (hw _ (List.mem_of_getElem? (i := 6) rfl)) (hw _ (List.mem_of_getElem? (i := 3) rfl)) (by decide) (by decide)) (g := (mkF m 101 #[.val (.long t1), .second, .val (.long r1), .second, .val (.long t2), .second, .val (.long r2), .second, .val (.long t3), .second, .val (.int md), .val (.long (4611686018427387903 : Int64)), .second, .val (.long ta), .second, .val (.long tb), .second, .val (.long rb), .second, .val (.long tc), .second, .val (.long rc), .second, .val (.ref b12), .unset, .unset, .unset, .unset, .unset, .unset, .unset, .unset] [(.long rb), (.long tb), (.ref b14), (.ref b14)])) rfl (by rw [hml]; rfl) (Steps.refl _) (a := b14) (argsL := [(.long tb), (.long rb)]) (rest := [(.ref b14)]) (lenOf own_f13 rfl) rfl (by show 2 * 0 + _ ≤ _; exact Nat.le_of_eq rfl) (hb hby at_101) (fun _ _ => ⟨rfl, e14, (by decide : 2 + 0 ≤ _), (by decide : 4 + 0 ≤ _)⟩)
  dsimp only [Pt.U, Pt.locs, Pt.cells, Pt.slots] at X15 l15 y15 z15 st15 hQ15
  subst l15 y15 z15
  obtain ⟨h15, e15⟩ : ∃ z, T15.heap = z := ⟨_, rfl⟩
  rw [e15] at hQ15
  obtain ⟨rfl, Nq15, K15, Ft15, Fr15⟩ := hQ15
  have N15 := Fr.app N13 Nq15
  have Zl15 : n0 ≤ h15.size := Nat.le_trans Zl14 K15.1
  refine own_go st15 ?_
  show own_Go p e below _ (T15.setTop (mkF m 104 #[.val (.long t1), .second, .val (.long r1), .second, .val (.long t2), .second, .val (.long r2), .second, .val (.long t3), .second, .val (.int md), .val (.long (4611686018427387903 : Int64)), .second, .val (.long ta), .second, .val (.long tb), .second, .val (.long rb), .second, .val (.long tc), .second, .val (.long rc), .second, .val (.ref b12), .unset, .unset, .unset, .unset, .unset, .unset, .unset, .unset] [(.ref b14)]))
  refine own_go (XS.astore X15.here hx rfl (hb hby at_104) rfl rfl (l' := #[.val (.long t1), .second, .val (.long r1), .second, .val (.long t2), .second, .val (.long r2), .second, .val (.long t3), .second, .val (.int md), .val (.long (4611686018427387903 : Int64)), .second, .val (.long ta), .second, .val (.long tb), .second, .val (.long rb), .second, .val (.long tc), .second, .val (.long rc), .second, .val (.ref b12), .val (.ref b14), .unset, .unset, .unset, .unset, .unset, .unset, .unset]) rfl (Steps.refl _)) ?_
  show own_Go p e below _ (T15.setTop (mkF m 106 #[.val (.long t1), .second, .val (.long r1), .second, .val (.long t2), .second, .val (.long r2), .second, .val (.long t3), .second, .val (.int md), .val (.long (4611686018427387903 : Int64)), .second, .val (.long ta), .second, .val (.long tb), .second, .val (.long rb), .second, .val (.long tc), .second, .val (.long rc), .second, .val (.ref b12), .val (.ref b14), .unset, .unset, .unset, .unset, .unset, .unset, .unset] []))
  obtain ⟨T16, h16, b16, g16, X16, e16, E16, A16, D16, st16⟩ := own_newO X15 hx hZ hown (hw _ (List.mem_of_getElem? (i := 1) rfl)) (hw _ (List.mem_of_getElem? (i := 2) rfl)) (hw _ (List.mem_of_getElem? (i := 3) rfl)) e15 (g := (mkF m 106 #[.val (.long t1), .second, .val (.long r1), .second, .val (.long t2), .second, .val (.long r2), .second, .val (.long t3), .second, .val (.int md), .val (.long (4611686018427387903 : Int64)), .second, .val (.long ta), .second, .val (.long tb), .second, .val (.long rb), .second, .val (.long tc), .second, .val (.long rc), .second, .val (.ref b12), .val (.ref b14), .unset, .unset, .unset, .unset, .unset, .unset, .unset] [])) rfl (hb hby at_106) (by decide) (by decide)
  have ne_b12_b16 : b12 ≠ b16 := own_born (((A12.keep K13).ext E14).keep K15).lt g16
  have ne_b14_b16 : b14 ≠ b16 := own_born (A14.keep K15).lt g16
  have ge_b16 : n0 ≤ b16 := Nat.le_trans Zl15 (Nat.le_of_eq g16.symm)
  have Zl16 : n0 ≤ h16.size := Nat.le_trans Zl15 E16.1
  have F16_time : Fld Z h16 b16 "com/example/orderbound/orderbound/store/Stamp" "time" "J" (.long (0 : Int64)) := D16 (Or.inr (hw _ (List.mem_of_getElem? (i := 20) rfl))) (ty := .long) (by decide)
  have F16_replica : Fld Z h16 b16 "com/example/orderbound/orderbound/store/Stamp" "replica" "J" (.long (0 : Int64)) := D16 (Or.inr (hw _ (List.mem_of_getElem? (i := 22) rfl))) (ty := .long) (by decide)
  refine own_go st16 ?_
  show own_Go p e below _ (T16.setTop (mkF m 109 #[.val (.long t1), .second, .val (.long r1), .second, .val (.long t2), .second, .val (.long r2), .second, .val (.long t3), .second, .val (.int md), .val (.long (4611686018427387903 : Int64)), .second, .val (.long ta), .second, .val (.long tb), .second, .val (.long rb), .second, .val (.long tc), .second, .val (.long rc), .second, .val (.ref b12), .val (.ref b14), .unset, .unset, .unset, .unset, .unset, .unset, .unset] [(.ref b16)]))
  refine own_go (XS.dup X16.here hx rfl (hb hby at_109) rfl rfl (Steps.refl _)) ?_
  show own_Go p e below _ (T16.setTop (mkF m 110 #[.val (.long t1), .second, .val (.long r1), .second, .val (.long t2), .second, .val (.long r2), .second, .val (.long t3), .second, .val (.int md), .val (.long (4611686018427387903 : Int64)), .second, .val (.long ta), .second, .val (.long tb), .second, .val (.long rb), .second, .val (.long tc), .second, .val (.long rc), .second, .val (.ref b12), .val (.ref b14), .unset, .unset, .unset, .unset, .unset, .unset, .unset] [(.ref b16), (.ref b16)]))
  refine own_go (XS.lload X16.here hx rfl (hb hby at_110) rfl (Steps.refl _)) ?_
  show own_Go p e below _ (T16.setTop (mkF m 112 #[.val (.long t1), .second, .val (.long r1), .second, .val (.long t2), .second, .val (.long r2), .second, .val (.long t3), .second, .val (.int md), .val (.long (4611686018427387903 : Int64)), .second, .val (.long ta), .second, .val (.long tb), .second, .val (.long rb), .second, .val (.long tc), .second, .val (.long rc), .second, .val (.ref b12), .val (.ref b14), .unset, .unset, .unset, .unset, .unset, .unset, .unset] [(.long tc), (.ref b16), (.ref b16)]))
  refine own_go (XS.lload X16.here hx rfl (hb hby at_112) rfl (Steps.refl _)) ?_
  show own_Go p e below _ (T16.setTop (mkF m 114 #[.val (.long t1), .second, .val (.long r1), .second, .val (.long t2), .second, .val (.long r2), .second, .val (.long t3), .second, .val (.int md), .val (.long (4611686018427387903 : Int64)), .second, .val (.long ta), .second, .val (.long tb), .second, .val (.long rb), .second, .val (.long tc), .second, .val (.long rc), .second, .val (.ref b12), .val (.ref b14), .unset, .unset, .unset, .unset, .unset, .unset, .unset] [(.long rc), (.long tc), (.ref b16), (.ref b16)]))
  obtain ⟨_, _, ⟨T17, L17, k17, n17⟩, -, X17, ⟨Lc17, hQ17, l17, y17, z17⟩, st17⟩ := X16.specialBack hx (y := (⟨"com/example/orderbound/orderbound/store/Stamp", "<init>", "(JJ)V"⟩ : MethodName)) rfl hown (mvT hZ (hw _ (List.mem_of_getElem? (i := 4) rfl))) (mvT hZ (hw _ (List.mem_of_getElem? (i := 5) rfl))) (mvT hZ (hw _ (List.mem_of_getElem? (i := 6) rfl))) (by decide) (own_pays (W := 1) (rm_init l Z a0 hw b16 tc rc h16 n0 Zl16 ok_tc A16 ge_b16 F16_time F16_replica) hZ (hw _ (List.mem_of_getElem? (i := 6) rfl)) (hw _ (List.mem_of_getElem? (i := 3) rfl)) (by decide) (by decide)) (g := (mkF m 114 #[.val (.long t1), .second, .val (.long r1), .second, .val (.long t2), .second, .val (.long r2), .second, .val (.long t3), .second, .val (.int md), .val (.long (4611686018427387903 : Int64)), .second, .val (.long ta), .second, .val (.long tb), .second, .val (.long rb), .second, .val (.long tc), .second, .val (.long rc), .second, .val (.ref b12), .val (.ref b14), .unset, .unset, .unset, .unset, .unset, .unset, .unset] [(.long rc), (.long tc), (.ref b16), (.ref b16)])) rfl (by rw [hml]; rfl) (Steps.refl _) (a := b16) (argsL := [(.long tc), (.long rc)]) (rest := [(.ref b16)]) (lenOf own_f13 rfl) rfl (by show 2 * 0 + _ ≤ _; exact Nat.le_of_eq rfl) (hb hby at_114) (fun _ _ => ⟨rfl, e16, (by decide : 3 + 0 ≤ _), (by decide : 6 + 0 ≤ _)⟩)
  dsimp only [Pt.U, Pt.locs, Pt.cells, Pt.slots] at X17 l17 y17 z17 st17 hQ17
  subst l17 y17 z17
  obtain ⟨h17, e17⟩ : ∃ z, T17.heap = z := ⟨_, rfl⟩
  rw [e17] at hQ17
  obtain ⟨rfl, Nq17, K17, Ft17, Fr17⟩ := hQ17
  have N17 := Fr.app N15 Nq17
  have Zl17 : n0 ≤ h17.size := Nat.le_trans Zl16 K17.1
  refine own_go st17 ?_
  show own_Go p e below _ (T17.setTop (mkF m 117 #[.val (.long t1), .second, .val (.long r1), .second, .val (.long t2), .second, .val (.long r2), .second, .val (.long t3), .second, .val (.int md), .val (.long (4611686018427387903 : Int64)), .second, .val (.long ta), .second, .val (.long tb), .second, .val (.long rb), .second, .val (.long tc), .second, .val (.long rc), .second, .val (.ref b12), .val (.ref b14), .unset, .unset, .unset, .unset, .unset, .unset, .unset] [(.ref b16)]))
  refine own_go (XS.astore X17.here hx rfl (hb hby at_117) rfl rfl (l' := #[.val (.long t1), .second, .val (.long r1), .second, .val (.long t2), .second, .val (.long r2), .second, .val (.long t3), .second, .val (.int md), .val (.long (4611686018427387903 : Int64)), .second, .val (.long ta), .second, .val (.long tb), .second, .val (.long rb), .second, .val (.long tc), .second, .val (.long rc), .second, .val (.ref b12), .val (.ref b14), .val (.ref b16), .unset, .unset, .unset, .unset, .unset, .unset]) rfl (Steps.refl _)) ?_
  show own_Go p e below _ (T17.setTop (mkF m 119 #[.val (.long t1), .second, .val (.long r1), .second, .val (.long t2), .second, .val (.long r2), .second, .val (.long t3), .second, .val (.int md), .val (.long (4611686018427387903 : Int64)), .second, .val (.long ta), .second, .val (.long tb), .second, .val (.long rb), .second, .val (.long tc), .second, .val (.long rc), .second, .val (.ref b12), .val (.ref b14), .val (.ref b16), .unset, .unset, .unset, .unset, .unset, .unset] []))
  refine own_go (XS.aload X17.here hx rfl (hb hby at_119) rfl rfl (Steps.refl _)) ?_
  show own_Go p e below _ (T17.setTop (mkF m 121 #[.val (.long t1), .second, .val (.long r1), .second, .val (.long t2), .second, .val (.long r2), .second, .val (.long t3), .second, .val (.int md), .val (.long (4611686018427387903 : Int64)), .second, .val (.long ta), .second, .val (.long tb), .second, .val (.long rb), .second, .val (.long tc), .second, .val (.long rc), .second, .val (.ref b12), .val (.ref b14), .val (.ref b16), .unset, .unset, .unset, .unset, .unset, .unset] [(.ref b12)]))
  refine own_go (XS.aload X17.here hx rfl (hb hby at_121) rfl rfl (Steps.refl _)) ?_
  show own_Go p e below _ (T17.setTop (mkF m 123 #[.val (.long t1), .second, .val (.long r1), .second, .val (.long t2), .second, .val (.long r2), .second, .val (.long t3), .second, .val (.int md), .val (.long (4611686018427387903 : Int64)), .second, .val (.long ta), .second, .val (.long tb), .second, .val (.long rb), .second, .val (.long tc), .second, .val (.long rc), .second, .val (.ref b12), .val (.ref b14), .val (.ref b16), .unset, .unset, .unset, .unset, .unset, .unset] [(.ref b14), (.ref b12)]))
  obtain ⟨cq18, kq18, q18a, q18b, q18c⟩ := isOf hZ e17 (((((A12.keep K13).ext E14).keep K15).ext E16).keep K17)
  obtain ⟨_, _, ⟨T18, L18, k18, n18⟩, -, X18, ⟨Lc18, hQ18, l18, y18, z18⟩, st18⟩ := X17.virtualBack hx (y := (⟨"com/example/orderbound/orderbound/store/Stamp", "isAfter", "(Lcom/example/orderbound/orderbound/store/Stamp;)Z"⟩ : MethodName)) (z := (⟨"com/example/orderbound/orderbound/store/Stamp", "isAfter", "(Lcom/example/orderbound/orderbound/store/Stamp;)Z"⟩ : MethodName)) hown (mvT hZ (hw _ (List.mem_of_getElem? (i := 23) rfl))) (mvT hZ (hw _ (List.mem_of_getElem? (i := 24) rfl))) (notFace_of_selects (args := #[]) (mvT hZ (hw _ (List.mem_of_getElem? (i := 26) rfl)))) (mvT hZ (hw _ (List.mem_of_getElem? (i := 26) rfl))) (mvT hZ (hw _ (List.mem_of_getElem? (i := 25) rfl))) (by decide) (own_pays (W := 0) (rm_after l Z a0 hw b12 b14 ta r1 tb rb h17 n0 Zl17 ((((Ft13.ext E14).keep K15 (ninS ne_b12_b14 nin0)).ext E16).keep K17 (ninS ne_b12_b16 nin0)) ((((Fr13.ext E14).keep K15 (ninS ne_b12_b14 nin0)).ext E16).keep K17 (ninS ne_b12_b16 nin0)) ((Ft15.ext E16).keep K17 (ninS ne_b14_b16 nin0)) ((Fr15.ext E16).keep K17 (ninS ne_b14_b16 nin0))) hZ (hw _ (List.mem_of_getElem? (i := 27) rfl)) (hw _ (List.mem_of_getElem? (i := 3) rfl)) (by decide) (by decide)) q18a q18c (g := (mkF m 123 #[.val (.long t1), .second, .val (.long r1), .second, .val (.long t2), .second, .val (.long r2), .second, .val (.long t3), .second, .val (.int md), .val (.long (4611686018427387903 : Int64)), .second, .val (.long ta), .second, .val (.long tb), .second, .val (.long rb), .second, .val (.long tc), .second, .val (.long rc), .second, .val (.ref b12), .val (.ref b14), .val (.ref b16), .unset, .unset, .unset, .unset, .unset, .unset] [(.ref b14), (.ref b12)])) rfl (by rw [hml]; rfl) (Steps.refl _) (argsL := [(.ref b14)]) (rest := []) (lenOf own_f14 rfl) rfl (by show 2 * 0 + _ ≤ _; exact Nat.le_of_eq rfl) (hb hby at_123) (fun _ _ => ⟨rfl, e17, (by decide : 3 + 0 ≤ _), (by decide : 6 + 0 ≤ _)⟩)
  dsimp only [Pt.U, Pt.locs, Pt.cells, Pt.slots] at X18 l18 y18 z18 st18 hQ18
  subst l18 y18 z18
  obtain ⟨rfl, rfl, e18⟩ := hQ18
  try rw [List.append_nil] at X18
  refine own_go st18 ?_
  show own_Go p e below _ (T18.setTop (mkF m 126 #[.val (.long t1), .second, .val (.long r1), .second, .val (.long t2), .second, .val (.long r2), .second, .val (.long t3), .second, .val (.int md), .val (.long (4611686018427387903 : Int64)), .second, .val (.long ta), .second, .val (.long tb), .second, .val (.long rb), .second, .val (.long tc), .second, .val (.long rc), .second, .val (.ref b12), .val (.ref b14), .val (.ref b16), .unset, .unset, .unset, .unset, .unset, .unset] [(.int (own_b (own_aft ta r1 tb rb = true)))]))
  refine own_go (XS.istore X18.here hx rfl (hb hby at_126) rfl (l' := #[.val (.long t1), .second, .val (.long r1), .second, .val (.long t2), .second, .val (.long r2), .second, .val (.long t3), .second, .val (.int md), .val (.long (4611686018427387903 : Int64)), .second, .val (.long ta), .second, .val (.long tb), .second, .val (.long rb), .second, .val (.long tc), .second, .val (.long rc), .second, .val (.ref b12), .val (.ref b14), .val (.ref b16), .val (.int (own_b (own_aft ta r1 tb rb = true))), .unset, .unset, .unset, .unset, .unset]) rfl (Steps.refl _)) ?_
  show own_Go p e below _ (T18.setTop (mkF m 128 #[.val (.long t1), .second, .val (.long r1), .second, .val (.long t2), .second, .val (.long r2), .second, .val (.long t3), .second, .val (.int md), .val (.long (4611686018427387903 : Int64)), .second, .val (.long ta), .second, .val (.long tb), .second, .val (.long rb), .second, .val (.long tc), .second, .val (.long rc), .second, .val (.ref b12), .val (.ref b14), .val (.ref b16), .val (.int (own_b (own_aft ta r1 tb rb = true))), .unset, .unset, .unset, .unset, .unset] []))
  refine own_go (XS.aload X18.here hx rfl (hb hby at_128) rfl rfl (Steps.refl _)) ?_
  show own_Go p e below _ (T18.setTop (mkF m 130 #[.val (.long t1), .second, .val (.long r1), .second, .val (.long t2), .second, .val (.long r2), .second, .val (.long t3), .second, .val (.int md), .val (.long (4611686018427387903 : Int64)), .second, .val (.long ta), .second, .val (.long tb), .second, .val (.long rb), .second, .val (.long tc), .second, .val (.long rc), .second, .val (.ref b12), .val (.ref b14), .val (.ref b16), .val (.int (own_b (own_aft ta r1 tb rb = true))), .unset, .unset, .unset, .unset, .unset] [(.ref b14)]))
  refine own_go (XS.aload X18.here hx rfl (hb hby at_130) rfl rfl (Steps.refl _)) ?_
  show own_Go p e below _ (T18.setTop (mkF m 132 #[.val (.long t1), .second, .val (.long r1), .second, .val (.long t2), .second, .val (.long r2), .second, .val (.long t3), .second, .val (.int md), .val (.long (4611686018427387903 : Int64)), .second, .val (.long ta), .second, .val (.long tb), .second, .val (.long rb), .second, .val (.long tc), .second, .val (.long rc), .second, .val (.ref b12), .val (.ref b14), .val (.ref b16), .val (.int (own_b (own_aft ta r1 tb rb = true))), .unset, .unset, .unset, .unset, .unset] [(.ref b12), (.ref b14)]))
  obtain ⟨cq19, kq19, q19a, q19b, q19c⟩ := isOf hZ e18 (((A14.keep K15).ext E16).keep K17)
  obtain ⟨_, _, ⟨T19, L19, k19, n19⟩, -, X19, ⟨Lc19, hQ19, l19, y19, z19⟩, st19⟩ := X18.virtualBack hx (y := (⟨"com/example/orderbound/orderbound/store/Stamp", "isAfter", "(Lcom/example/orderbound/orderbound/store/Stamp;)Z"⟩ : MethodName)) (z := (⟨"com/example/orderbound/orderbound/store/Stamp", "isAfter", "(Lcom/example/orderbound/orderbound/store/Stamp;)Z"⟩ : MethodName)) hown (mvT hZ (hw _ (List.mem_of_getElem? (i := 23) rfl))) (mvT hZ (hw _ (List.mem_of_getElem? (i := 24) rfl))) (notFace_of_selects (args := #[]) (mvT hZ (hw _ (List.mem_of_getElem? (i := 26) rfl)))) (mvT hZ (hw _ (List.mem_of_getElem? (i := 26) rfl))) (mvT hZ (hw _ (List.mem_of_getElem? (i := 25) rfl))) (by decide) (own_pays (W := 0) (rm_after l Z a0 hw b14 b12 tb rb ta r1 h17 n0 Zl17 ((Ft15.ext E16).keep K17 (ninS ne_b14_b16 nin0)) ((Fr15.ext E16).keep K17 (ninS ne_b14_b16 nin0)) ((((Ft13.ext E14).keep K15 (ninS ne_b12_b14 nin0)).ext E16).keep K17 (ninS ne_b12_b16 nin0)) ((((Fr13.ext E14).keep K15 (ninS ne_b12_b14 nin0)).ext E16).keep K17 (ninS ne_b12_b16 nin0))) hZ (hw _ (List.mem_of_getElem? (i := 27) rfl)) (hw _ (List.mem_of_getElem? (i := 3) rfl)) (by decide) (by decide)) q19a q19c (g := (mkF m 132 #[.val (.long t1), .second, .val (.long r1), .second, .val (.long t2), .second, .val (.long r2), .second, .val (.long t3), .second, .val (.int md), .val (.long (4611686018427387903 : Int64)), .second, .val (.long ta), .second, .val (.long tb), .second, .val (.long rb), .second, .val (.long tc), .second, .val (.long rc), .second, .val (.ref b12), .val (.ref b14), .val (.ref b16), .val (.int (own_b (own_aft ta r1 tb rb = true))), .unset, .unset, .unset, .unset, .unset] [(.ref b12), (.ref b14)])) rfl (by rw [hml]; rfl) (Steps.refl _) (argsL := [(.ref b12)]) (rest := []) (lenOf own_f14 rfl) rfl (by show 2 * 0 + _ ≤ _; exact Nat.le_of_eq rfl) (hb hby at_132) (fun _ _ => ⟨rfl, e18, (by decide : 3 + 0 ≤ _), (by decide : 6 + 0 ≤ _)⟩)
  dsimp only [Pt.U, Pt.locs, Pt.cells, Pt.slots] at X19 l19 y19 z19 st19 hQ19
  subst l19 y19 z19
  obtain ⟨rfl, rfl, e19⟩ := hQ19
  try rw [List.append_nil] at X19
  refine own_go st19 ?_
  show own_Go p e below _ (T19.setTop (mkF m 135 #[.val (.long t1), .second, .val (.long r1), .second, .val (.long t2), .second, .val (.long r2), .second, .val (.long t3), .second, .val (.int md), .val (.long (4611686018427387903 : Int64)), .second, .val (.long ta), .second, .val (.long tb), .second, .val (.long rb), .second, .val (.long tc), .second, .val (.long rc), .second, .val (.ref b12), .val (.ref b14), .val (.ref b16), .val (.int (own_b (own_aft ta r1 tb rb = true))), .unset, .unset, .unset, .unset, .unset] [(.int (own_b (own_aft tb rb ta r1 = true)))]))
  refine own_go (XS.istore X19.here hx rfl (hb hby at_135) rfl (l' := #[.val (.long t1), .second, .val (.long r1), .second, .val (.long t2), .second, .val (.long r2), .second, .val (.long t3), .second, .val (.int md), .val (.long (4611686018427387903 : Int64)), .second, .val (.long ta), .second, .val (.long tb), .second, .val (.long rb), .second, .val (.long tc), .second, .val (.long rc), .second, .val (.ref b12), .val (.ref b14), .val (.ref b16), .val (.int (own_b (own_aft ta r1 tb rb = true))), .val (.int (own_b (own_aft tb rb ta r1 = true))), .unset, .unset, .unset, .unset]) rfl (Steps.refl _)) ?_
  show own_Go p e below _ (T19.setTop (mkF m 137 #[.val (.long t1), .second, .val (.long r1), .second, .val (.long t2), .second, .val (.long r2), .second, .val (.long t3), .second, .val (.int md), .val (.long (4611686018427387903 : Int64)), .second, .val (.long ta), .second, .val (.long tb), .second, .val (.long rb), .second, .val (.long tc), .second, .val (.long rc), .second, .val (.ref b12), .val (.ref b14), .val (.ref b16), .val (.int (own_b (own_aft ta r1 tb rb = true))), .val (.int (own_b (own_aft tb rb ta r1 = true))), .unset, .unset, .unset, .unset] []))
  refine own_go (XS.aload X19.here hx rfl (hb hby at_137) rfl rfl (Steps.refl _)) ?_
  show own_Go p e below _ (T19.setTop (mkF m 139 #[.val (.long t1), .second, .val (.long r1), .second, .val (.long t2), .second, .val (.long r2), .second, .val (.long t3), .second, .val (.int md), .val (.long (4611686018427387903 : Int64)), .second, .val (.long ta), .second, .val (.long tb), .second, .val (.long rb), .second, .val (.long tc), .second, .val (.long rc), .second, .val (.ref b12), .val (.ref b14), .val (.ref b16), .val (.int (own_b (own_aft ta r1 tb rb = true))), .val (.int (own_b (own_aft tb rb ta r1 = true))), .unset, .unset, .unset, .unset] [(.ref b14)]))
  refine own_go (XS.aload X19.here hx rfl (hb hby at_139) rfl rfl (Steps.refl _)) ?_
  show own_Go p e below _ (T19.setTop (mkF m 141 #[.val (.long t1), .second, .val (.long r1), .second, .val (.long t2), .second, .val (.long r2), .second, .val (.long t3), .second, .val (.int md), .val (.long (4611686018427387903 : Int64)), .second, .val (.long ta), .second, .val (.long tb), .second, .val (.long rb), .second, .val (.long tc), .second, .val (.long rc), .second, .val (.ref b12), .val (.ref b14), .val (.ref b16), .val (.int (own_b (own_aft ta r1 tb rb = true))), .val (.int (own_b (own_aft tb rb ta r1 = true))), .unset, .unset, .unset, .unset] [(.ref b16), (.ref b14)]))
  obtain ⟨cq20, kq20, q20a, q20b, q20c⟩ := isOf hZ e19 (((A14.keep K15).ext E16).keep K17)
  obtain ⟨_, _, ⟨T20, L20, k20, n20⟩, -, X20, ⟨Lc20, hQ20, l20, y20, z20⟩, st20⟩ := X19.virtualBack hx (y := (⟨"com/example/orderbound/orderbound/store/Stamp", "isAfter", "(Lcom/example/orderbound/orderbound/store/Stamp;)Z"⟩ : MethodName)) (z := (⟨"com/example/orderbound/orderbound/store/Stamp", "isAfter", "(Lcom/example/orderbound/orderbound/store/Stamp;)Z"⟩ : MethodName)) hown (mvT hZ (hw _ (List.mem_of_getElem? (i := 23) rfl))) (mvT hZ (hw _ (List.mem_of_getElem? (i := 24) rfl))) (notFace_of_selects (args := #[]) (mvT hZ (hw _ (List.mem_of_getElem? (i := 26) rfl)))) (mvT hZ (hw _ (List.mem_of_getElem? (i := 26) rfl))) (mvT hZ (hw _ (List.mem_of_getElem? (i := 25) rfl))) (by decide) (own_pays (W := 0) (rm_after l Z a0 hw b14 b16 tb rb tc rc h17 n0 Zl17 ((Ft15.ext E16).keep K17 (ninS ne_b14_b16 nin0)) ((Fr15.ext E16).keep K17 (ninS ne_b14_b16 nin0)) Ft17 Fr17) hZ (hw _ (List.mem_of_getElem? (i := 27) rfl)) (hw _ (List.mem_of_getElem? (i := 3) rfl)) (by decide) (by decide)) q20a q20c (g := (mkF m 141 #[.val (.long t1), .second, .val (.long r1), .second, .val (.long t2), .second, .val (.long r2), .second, .val (.long t3), .second, .val (.int md), .val (.long (4611686018427387903 : Int64)), .second, .val (.long ta), .second, .val (.long tb), .second, .val (.long rb), .second, .val (.long tc), .second, .val (.long rc), .second, .val (.ref b12), .val (.ref b14), .val (.ref b16), .val (.int (own_b (own_aft ta r1 tb rb = true))), .val (.int (own_b (own_aft tb rb ta r1 = true))), .unset, .unset, .unset, .unset] [(.ref b16), (.ref b14)])) rfl (by rw [hml]; rfl) (Steps.refl _) (argsL := [(.ref b16)]) (rest := []) (lenOf own_f14 rfl) rfl (by show 2 * 0 + _ ≤ _; exact Nat.le_of_eq rfl) (hb hby at_141) (fun _ _ => ⟨rfl, e19, (by decide : 3 + 0 ≤ _), (by decide : 6 + 0 ≤ _)⟩)
  dsimp only [Pt.U, Pt.locs, Pt.cells, Pt.slots] at X20 l20 y20 z20 st20 hQ20
  subst l20 y20 z20
  obtain ⟨rfl, rfl, e20⟩ := hQ20
  try rw [List.append_nil] at X20
  refine own_go st20 ?_
  show own_Go p e below _ (T20.setTop (mkF m 144 #[.val (.long t1), .second, .val (.long r1), .second, .val (.long t2), .second, .val (.long r2), .second, .val (.long t3), .second, .val (.int md), .val (.long (4611686018427387903 : Int64)), .second, .val (.long ta), .second, .val (.long tb), .second, .val (.long rb), .second, .val (.long tc), .second, .val (.long rc), .second, .val (.ref b12), .val (.ref b14), .val (.ref b16), .val (.int (own_b (own_aft ta r1 tb rb = true))), .val (.int (own_b (own_aft tb rb ta r1 = true))), .unset, .unset, .unset, .unset] [(.int (own_b (own_aft tb rb tc rc = true)))]))
  refine own_go (XS.istore X20.here hx rfl (hb hby at_144) rfl (l' := #[.val (.long t1), .second, .val (.long r1), .second, .val (.long t2), .second, .val (.long r2), .second, .val (.long t3), .second, .val (.int md), .val (.long (4611686018427387903 : Int64)), .second, .val (.long ta), .second, .val (.long tb), .second, .val (.long rb), .second, .val (.long tc), .second, .val (.long rc), .second, .val (.ref b12), .val (.ref b14), .val (.ref b16), .val (.int (own_b (own_aft ta r1 tb rb = true))), .val (.int (own_b (own_aft tb rb ta r1 = true))), .val (.int (own_b (own_aft tb rb tc rc = true))), .unset, .unset, .unset]) rfl (Steps.refl _)) ?_
  show own_Go p e below _ (T20.setTop (mkF m 146 #[.val (.long t1), .second, .val (.long r1), .second, .val (.long t2), .second, .val (.long r2), .second, .val (.long t3), .second, .val (.int md), .val (.long (4611686018427387903 : Int64)), .second, .val (.long ta), .second, .val (.long tb), .second, .val (.long rb), .second, .val (.long tc), .second, .val (.long rc), .second, .val (.ref b12), .val (.ref b14), .val (.ref b16), .val (.int (own_b (own_aft ta r1 tb rb = true))), .val (.int (own_b (own_aft tb rb ta r1 = true))), .val (.int (own_b (own_aft tb rb tc rc = true))), .unset, .unset, .unset] []))
  refine own_go (XS.aload X20.here hx rfl (hb hby at_146) rfl rfl (Steps.refl _)) ?_
  show own_Go p e below _ (T20.setTop (mkF m 148 #[.val (.long t1), .second, .val (.long r1), .second, .val (.long t2), .second, .val (.long r2), .second, .val (.long t3), .second, .val (.int md), .val (.long (4611686018427387903 : Int64)), .second, .val (.long ta), .second, .val (.long tb), .second, .val (.long rb), .second, .val (.long tc), .second, .val (.long rc), .second, .val (.ref b12), .val (.ref b14), .val (.ref b16), .val (.int (own_b (own_aft ta r1 tb rb = true))), .val (.int (own_b (own_aft tb rb ta r1 = true))), .val (.int (own_b (own_aft tb rb tc rc = true))), .unset, .unset, .unset] [(.ref b12)]))
  refine own_go (XS.aload X20.here hx rfl (hb hby at_148) rfl rfl (Steps.refl _)) ?_
  show own_Go p e below _ (T20.setTop (mkF m 150 #[.val (.long t1), .second, .val (.long r1), .second, .val (.long t2), .second, .val (.long r2), .second, .val (.long t3), .second, .val (.int md), .val (.long (4611686018427387903 : Int64)), .second, .val (.long ta), .second, .val (.long tb), .second, .val (.long rb), .second, .val (.long tc), .second, .val (.long rc), .second, .val (.ref b12), .val (.ref b14), .val (.ref b16), .val (.int (own_b (own_aft ta r1 tb rb = true))), .val (.int (own_b (own_aft tb rb ta r1 = true))), .val (.int (own_b (own_aft tb rb tc rc = true))), .unset, .unset, .unset] [(.ref b16), (.ref b12)]))
  obtain ⟨cq21, kq21, q21a, q21b, q21c⟩ := isOf hZ e20 (((((A12.keep K13).ext E14).keep K15).ext E16).keep K17)
  obtain ⟨_, _, ⟨T21, L21, k21, n21⟩, -, X21, ⟨Lc21, hQ21, l21, y21, z21⟩, st21⟩ := X20.virtualBack hx (y := (⟨"com/example/orderbound/orderbound/store/Stamp", "isAfter", "(Lcom/example/orderbound/orderbound/store/Stamp;)Z"⟩ : MethodName)) (z := (⟨"com/example/orderbound/orderbound/store/Stamp", "isAfter", "(Lcom/example/orderbound/orderbound/store/Stamp;)Z"⟩ : MethodName)) hown (mvT hZ (hw _ (List.mem_of_getElem? (i := 23) rfl))) (mvT hZ (hw _ (List.mem_of_getElem? (i := 24) rfl))) (notFace_of_selects (args := #[]) (mvT hZ (hw _ (List.mem_of_getElem? (i := 26) rfl)))) (mvT hZ (hw _ (List.mem_of_getElem? (i := 26) rfl))) (mvT hZ (hw _ (List.mem_of_getElem? (i := 25) rfl))) (by decide) (own_pays (W := 0) (rm_after l Z a0 hw b12 b16 ta r1 tc rc h17 n0 Zl17 ((((Ft13.ext E14).keep K15 (ninS ne_b12_b14 nin0)).ext E16).keep K17 (ninS ne_b12_b16 nin0)) ((((Fr13.ext E14).keep K15 (ninS ne_b12_b14 nin0)).ext E16).keep K17 (ninS ne_b12_b16 nin0)) Ft17 Fr17) hZ (hw _ (List.mem_of_getElem? (i := 27) rfl)) (hw _ (List.mem_of_getElem? (i := 3) rfl)) (by decide) (by decide)) q21a q21c (g := (mkF m 150 #[.val (.long t1), .second, .val (.long r1), .second, .val (.long t2), .second, .val (.long r2), .second, .val (.long t3), .second, .val (.int md), .val (.long (4611686018427387903 : Int64)), .second, .val (.long ta), .second, .val (.long tb), .second, .val (.long rb), .second, .val (.long tc), .second, .val (.long rc), .second, .val (.ref b12), .val (.ref b14), .val (.ref b16), .val (.int (own_b (own_aft ta r1 tb rb = true))), .val (.int (own_b (own_aft tb rb ta r1 = true))), .val (.int (own_b (own_aft tb rb tc rc = true))), .unset, .unset, .unset] [(.ref b16), (.ref b12)])) rfl (by rw [hml]; rfl) (Steps.refl _) (argsL := [(.ref b16)]) (rest := []) (lenOf own_f14 rfl) rfl (by show 2 * 0 + _ ≤ _; exact Nat.le_of_eq rfl) (hb hby at_150) (fun _ _ => ⟨rfl, e20, (by decide : 3 + 0 ≤ _), (by decide : 6 + 0 ≤ _)⟩)
  dsimp only [Pt.U, Pt.locs, Pt.cells, Pt.slots] at X21 l21 y21 z21 st21 hQ21
  subst l21 y21 z21
  obtain ⟨rfl, rfl, e21⟩ := hQ21
  try rw [List.append_nil] at X21
  refine own_go st21 ?_
  show own_Go p e below _ (T21.setTop (mkF m 153 #[.val (.long t1), .second, .val (.long r1), .second, .val (.long t2), .second, .val (.long r2), .second, .val (.long t3), .second, .val (.int md), .val (.long (4611686018427387903 : Int64)), .second, .val (.long ta), .second, .val (.long tb), .second, .val (.long rb), .second, .val (.long tc), .second, .val (.long rc), .second, .val (.ref b12), .val (.ref b14), .val (.ref b16), .val (.int (own_b (own_aft ta r1 tb rb = true))), .val (.int (own_b (own_aft tb rb ta r1 = true))), .val (.int (own_b (own_aft tb rb tc rc = true))), .unset, .unset, .unset] [(.int (own_b (own_aft ta r1 tc rc = true)))]))
  refine own_go (XS.istore X21.here hx rfl (hb hby at_153) rfl (l' := #[.val (.long t1), .second, .val (.long r1), .second, .val (.long t2), .second, .val (.long r2), .second, .val (.long t3), .second, .val (.int md), .val (.long (4611686018427387903 : Int64)), .second, .val (.long ta), .second, .val (.long tb), .second, .val (.long rb), .second, .val (.long tc), .second, .val (.long rc), .second, .val (.ref b12), .val (.ref b14), .val (.ref b16), .val (.int (own_b (own_aft ta r1 tb rb = true))), .val (.int (own_b (own_aft tb rb ta r1 = true))), .val (.int (own_b (own_aft tb rb tc rc = true))), .val (.int (own_b (own_aft ta r1 tc rc = true))), .unset, .unset]) rfl (Steps.refl _)) ?_
  show own_Go p e below _ (T21.setTop (mkF m 155 #[.val (.long t1), .second, .val (.long r1), .second, .val (.long t2), .second, .val (.long r2), .second, .val (.long t3), .second, .val (.int md), .val (.long (4611686018427387903 : Int64)), .second, .val (.long ta), .second, .val (.long tb), .second, .val (.long rb), .second, .val (.long tc), .second, .val (.long rc), .second, .val (.ref b12), .val (.ref b14), .val (.ref b16), .val (.int (own_b (own_aft ta r1 tb rb = true))), .val (.int (own_b (own_aft tb rb ta r1 = true))), .val (.int (own_b (own_aft tb rb tc rc = true))), .val (.int (own_b (own_aft ta r1 tc rc = true))), .unset, .unset] []))
  refine own_go (XS.lload X21.here hx rfl (hb hby at_155) rfl (Steps.refl _)) ?_
  show own_Go p e below _ (T21.setTop (mkF m 157 #[.val (.long t1), .second, .val (.long r1), .second, .val (.long t2), .second, .val (.long r2), .second, .val (.long t3), .second, .val (.int md), .val (.long (4611686018427387903 : Int64)), .second, .val (.long ta), .second, .val (.long tb), .second, .val (.long rb), .second, .val (.long tc), .second, .val (.long rc), .second, .val (.ref b12), .val (.ref b14), .val (.ref b16), .val (.int (own_b (own_aft ta r1 tb rb = true))), .val (.int (own_b (own_aft tb rb ta r1 = true))), .val (.int (own_b (own_aft tb rb tc rc = true))), .val (.int (own_b (own_aft ta r1 tc rc = true))), .unset, .unset] [(.long ta)]))
  refine own_go (XS.lload X21.here hx rfl (hb hby at_157) rfl (Steps.refl _)) ?_
  show own_Go p e below _ (T21.setTop (mkF m 159 #[.val (.long t1), .second, .val (.long r1), .second, .val (.long t2), .second, .val (.long r2), .second, .val (.long t3), .second, .val (.int md), .val (.long (4611686018427387903 : Int64)), .second, .val (.long ta), .second, .val (.long tb), .second, .val (.long rb), .second, .val (.long tc), .second, .val (.long rc), .second, .val (.ref b12), .val (.ref b14), .val (.ref b16), .val (.int (own_b (own_aft ta r1 tb rb = true))), .val (.int (own_b (own_aft tb rb ta r1 = true))), .val (.int (own_b (own_aft tb rb tc rc = true))), .val (.int (own_b (own_aft ta r1 tc rc = true))), .unset, .unset] [(.long tb), (.long ta)]))
  refine own_go (XS.lcmp X21.here hx rfl (hb hby at_159) rfl (Steps.refl _)) ?_
  show own_Go p e below _ (T21.setTop (mkF m 160 #[.val (.long t1), .second, .val (.long r1), .second, .val (.long t2), .second, .val (.long r2), .second, .val (.long t3), .second, .val (.int md), .val (.long (4611686018427387903 : Int64)), .second, .val (.long ta), .second, .val (.long tb), .second, .val (.long rb), .second, .val (.long tc), .second, .val (.long rc), .second, .val (.ref b12), .val (.ref b14), .val (.ref b16), .val (.int (own_b (own_aft ta r1 tb rb = true))), .val (.int (own_b (own_aft tb rb ta r1 = true))), .val (.int (own_b (own_aft tb rb tc rc = true))), .val (.int (own_b (own_aft ta r1 tc rc = true))), .unset, .unset] [(.int (lcmpW ta tb))]))
  suffices J5 : ∀ vJ5 : Int32, vJ5 = own_b (ta = tb ∧ r1 = rb) → own_Go p e below (own_G s (fun v h L => v = some (.int 1) ∧ Fr n0 L) room_1.cells room_1.slots) (T21.setTop (mkF m 175 #[.val (.long t1), .second, .val (.long r1), .second, .val (.long t2), .second, .val (.long r2), .second, .val (.long t3), .second, .val (.int md), .val (.long (4611686018427387903 : Int64)), .second, .val (.long ta), .second, .val (.long tb), .second, .val (.long rb), .second, .val (.long tc), .second, .val (.long rc), .second, .val (.ref b12), .val (.ref b14), .val (.ref b16), .val (.int (own_b (own_aft ta r1 tb rb = true))), .val (.int (own_b (own_aft tb rb ta r1 = true))), .val (.int (own_b (own_aft tb rb tc rc = true))), .val (.int (own_b (own_aft ta r1 tc rc = true))), .unset, .unset] [(.int vJ5)])) by
    by_cases hcJ5160 : ta = tb
    · refine own_go (XS.ifNo X21.here hx rfl (hb hby at_160) rfl (own_teqJ hcJ5160).2 (Steps.refl _)) ?_
      show own_Go p e below _ (T21.setTop (mkF m 163 #[.val (.long t1), .second, .val (.long r1), .second, .val (.long t2), .second, .val (.long r2), .second, .val (.long t3), .second, .val (.int md), .val (.long (4611686018427387903 : Int64)), .second, .val (.long ta), .second, .val (.long tb), .second, .val (.long rb), .second, .val (.long tc), .second, .val (.long rc), .second, .val (.ref b12), .val (.ref b14), .val (.ref b16), .val (.int (own_b (own_aft ta r1 tb rb = true))), .val (.int (own_b (own_aft tb rb ta r1 = true))), .val (.int (own_b (own_aft tb rb tc rc = true))), .val (.int (own_b (own_aft ta r1 tc rc = true))), .unset, .unset] []))
      refine own_go (XS.lloadN X21.here hx rfl (hb hby at_163) rfl (Steps.refl _)) ?_
      show own_Go p e below _ (T21.setTop (mkF m 164 #[.val (.long t1), .second, .val (.long r1), .second, .val (.long t2), .second, .val (.long r2), .second, .val (.long t3), .second, .val (.int md), .val (.long (4611686018427387903 : Int64)), .second, .val (.long ta), .second, .val (.long tb), .second, .val (.long rb), .second, .val (.long tc), .second, .val (.long rc), .second, .val (.ref b12), .val (.ref b14), .val (.ref b16), .val (.int (own_b (own_aft ta r1 tb rb = true))), .val (.int (own_b (own_aft tb rb ta r1 = true))), .val (.int (own_b (own_aft tb rb tc rc = true))), .val (.int (own_b (own_aft ta r1 tc rc = true))), .unset, .unset] [(.long r1)]))
      refine own_go (XS.lload X21.here hx rfl (hb hby at_164) rfl (Steps.refl _)) ?_
      show own_Go p e below _ (T21.setTop (mkF m 166 #[.val (.long t1), .second, .val (.long r1), .second, .val (.long t2), .second, .val (.long r2), .second, .val (.long t3), .second, .val (.int md), .val (.long (4611686018427387903 : Int64)), .second, .val (.long ta), .second, .val (.long tb), .second, .val (.long rb), .second, .val (.long tc), .second, .val (.long rc), .second, .val (.ref b12), .val (.ref b14), .val (.ref b16), .val (.int (own_b (own_aft ta r1 tb rb = true))), .val (.int (own_b (own_aft tb rb ta r1 = true))), .val (.int (own_b (own_aft tb rb tc rc = true))), .val (.int (own_b (own_aft ta r1 tc rc = true))), .unset, .unset] [(.long rb), (.long r1)]))
      refine own_go (XS.lcmp X21.here hx rfl (hb hby at_166) rfl (Steps.refl _)) ?_
      show own_Go p e below _ (T21.setTop (mkF m 167 #[.val (.long t1), .second, .val (.long r1), .second, .val (.long t2), .second, .val (.long r2), .second, .val (.long t3), .second, .val (.int md), .val (.long (4611686018427387903 : Int64)), .second, .val (.long ta), .second, .val (.long tb), .second, .val (.long rb), .second, .val (.long tc), .second, .val (.long rc), .second, .val (.ref b12), .val (.ref b14), .val (.ref b16), .val (.int (own_b (own_aft ta r1 tb rb = true))), .val (.int (own_b (own_aft tb rb ta r1 = true))), .val (.int (own_b (own_aft tb rb tc rc = true))), .val (.int (own_b (own_aft ta r1 tc rc = true))), .unset, .unset] [(.int (lcmpW r1 rb))]))
      by_cases hcJ5167 : r1 = rb
      · refine own_go (XS.ifNo X21.here hx rfl (hb hby at_167) rfl (own_teqJ hcJ5167).2 (Steps.refl _)) ?_
        show own_Go p e below _ (T21.setTop (mkF m 170 #[.val (.long t1), .second, .val (.long r1), .second, .val (.long t2), .second, .val (.long r2), .second, .val (.long t3), .second, .val (.int md), .val (.long (4611686018427387903 : Int64)), .second, .val (.long ta), .second, .val (.long tb), .second, .val (.long rb), .second, .val (.long tc), .second, .val (.long rc), .second, .val (.ref b12), .val (.ref b14), .val (.ref b16), .val (.int (own_b (own_aft ta r1 tb rb = true))), .val (.int (own_b (own_aft tb rb ta r1 = true))), .val (.int (own_b (own_aft tb rb tc rc = true))), .val (.int (own_b (own_aft ta r1 tc rc = true))), .unset, .unset] []))
        refine own_go (XS.iconst X21.here hx rfl (hb hby at_170) (Steps.refl _)) ?_
        show own_Go p e below _ (T21.setTop (mkF m 171 #[.val (.long t1), .second, .val (.long r1), .second, .val (.long t2), .second, .val (.long r2), .second, .val (.long t3), .second, .val (.int md), .val (.long (4611686018427387903 : Int64)), .second, .val (.long ta), .second, .val (.long tb), .second, .val (.long rb), .second, .val (.long tc), .second, .val (.long rc), .second, .val (.ref b12), .val (.ref b14), .val (.ref b16), .val (.int (own_b (own_aft ta r1 tb rb = true))), .val (.int (own_b (own_aft tb rb ta r1 = true))), .val (.int (own_b (own_aft tb rb tc rc = true))), .val (.int (own_b (own_aft ta r1 tc rc = true))), .unset, .unset] [(.int (1 : Int32))]))
        refine own_go (XS.goto X21.here hx rfl (pc0 := 171) (pc' := 175) rfl (hb hby at_171) (by decide) (by decide) (Steps.refl _)) ?_
        show own_Go p e below _ (T21.setTop (mkF m 175 #[.val (.long t1), .second, .val (.long r1), .second, .val (.long t2), .second, .val (.long r2), .second, .val (.long t3), .second, .val (.int md), .val (.long (4611686018427387903 : Int64)), .second, .val (.long ta), .second, .val (.long tb), .second, .val (.long rb), .second, .val (.long tc), .second, .val (.long rc), .second, .val (.ref b12), .val (.ref b14), .val (.ref b16), .val (.int (own_b (own_aft ta r1 tb rb = true))), .val (.int (own_b (own_aft tb rb ta r1 = true))), .val (.int (own_b (own_aft tb rb tc rc = true))), .val (.int (own_b (own_aft ta r1 tc rc = true))), .unset, .unset] [(.int (1 : Int32))]))
        exact J5 _ (own_b_t (by simp [hcJ5160, hcJ5167])).symm
      · refine own_go (XS.ifYes X21.here hx rfl (pc0 := 167) (pc' := 174) rfl (hb hby at_167) rfl (own_feqJ hcJ5167).2 (by decide) (by decide) (Steps.refl _)) ?_
        show own_Go p e below _ (T21.setTop (mkF m 174 #[.val (.long t1), .second, .val (.long r1), .second, .val (.long t2), .second, .val (.long r2), .second, .val (.long t3), .second, .val (.int md), .val (.long (4611686018427387903 : Int64)), .second, .val (.long ta), .second, .val (.long tb), .second, .val (.long rb), .second, .val (.long tc), .second, .val (.long rc), .second, .val (.ref b12), .val (.ref b14), .val (.ref b16), .val (.int (own_b (own_aft ta r1 tb rb = true))), .val (.int (own_b (own_aft tb rb ta r1 = true))), .val (.int (own_b (own_aft tb rb tc rc = true))), .val (.int (own_b (own_aft ta r1 tc rc = true))), .unset, .unset] []))
        refine own_go (XS.iconst X21.here hx rfl (hb hby at_174) (Steps.refl _)) ?_
        show own_Go p e below _ (T21.setTop (mkF m 175 #[.val (.long t1), .second, .val (.long r1), .second, .val (.long t2), .second, .val (.long r2), .second, .val (.long t3), .second, .val (.int md), .val (.long (4611686018427387903 : Int64)), .second, .val (.long ta), .second, .val (.long tb), .second, .val (.long rb), .second, .val (.long tc), .second, .val (.long rc), .second, .val (.ref b12), .val (.ref b14), .val (.ref b16), .val (.int (own_b (own_aft ta r1 tb rb = true))), .val (.int (own_b (own_aft tb rb ta r1 = true))), .val (.int (own_b (own_aft tb rb tc rc = true))), .val (.int (own_b (own_aft ta r1 tc rc = true))), .unset, .unset] [(.int (0 : Int32))]))
        exact J5 _ (own_b_f (by simp [hcJ5160, hcJ5167])).symm
    · refine own_go (XS.ifYes X21.here hx rfl (pc0 := 160) (pc' := 174) rfl (hb hby at_160) rfl (own_feqJ hcJ5160).2 (by decide) (by decide) (Steps.refl _)) ?_
      show own_Go p e below _ (T21.setTop (mkF m 174 #[.val (.long t1), .second, .val (.long r1), .second, .val (.long t2), .second, .val (.long r2), .second, .val (.long t3), .second, .val (.int md), .val (.long (4611686018427387903 : Int64)), .second, .val (.long ta), .second, .val (.long tb), .second, .val (.long rb), .second, .val (.long tc), .second, .val (.long rc), .second, .val (.ref b12), .val (.ref b14), .val (.ref b16), .val (.int (own_b (own_aft ta r1 tb rb = true))), .val (.int (own_b (own_aft tb rb ta r1 = true))), .val (.int (own_b (own_aft tb rb tc rc = true))), .val (.int (own_b (own_aft ta r1 tc rc = true))), .unset, .unset] []))
      refine own_go (XS.iconst X21.here hx rfl (hb hby at_174) (Steps.refl _)) ?_
      show own_Go p e below _ (T21.setTop (mkF m 175 #[.val (.long t1), .second, .val (.long r1), .second, .val (.long t2), .second, .val (.long r2), .second, .val (.long t3), .second, .val (.int md), .val (.long (4611686018427387903 : Int64)), .second, .val (.long ta), .second, .val (.long tb), .second, .val (.long rb), .second, .val (.long tc), .second, .val (.long rc), .second, .val (.ref b12), .val (.ref b14), .val (.ref b16), .val (.int (own_b (own_aft ta r1 tb rb = true))), .val (.int (own_b (own_aft tb rb ta r1 = true))), .val (.int (own_b (own_aft tb rb tc rc = true))), .val (.int (own_b (own_aft ta r1 tc rc = true))), .unset, .unset] [(.int (0 : Int32))]))
      exact J5 _ (own_b_f (by simp [hcJ5160])).symm
  intro vJ5 hvJ5
  subst hvJ5
  show own_Go p e below _ (T21.setTop (mkF m 175 #[.val (.long t1), .second, .val (.long r1), .second, .val (.long t2), .second, .val (.long r2), .second, .val (.long t3), .second, .val (.int md), .val (.long (4611686018427387903 : Int64)), .second, .val (.long ta), .second, .val (.long tb), .second, .val (.long rb), .second, .val (.long tc), .second, .val (.long rc), .second, .val (.ref b12), .val (.ref b14), .val (.ref b16), .val (.int (own_b (own_aft ta r1 tb rb = true))), .val (.int (own_b (own_aft tb rb ta r1 = true))), .val (.int (own_b (own_aft tb rb tc rc = true))), .val (.int (own_b (own_aft ta r1 tc rc = true))), .unset, .unset] [(.int (own_b (ta = tb ∧ r1 = rb)))]))
  refine own_go (XS.istore X21.here hx rfl (hb hby at_175) rfl (l' := #[.val (.long t1), .second, .val (.long r1), .second, .val (.long t2), .second, .val (.long r2), .second, .val (.long t3), .second, .val (.int md), .val (.long (4611686018427387903 : Int64)), .second, .val (.long ta), .second, .val (.long tb), .second, .val (.long rb), .second, .val (.long tc), .second, .val (.long rc), .second, .val (.ref b12), .val (.ref b14), .val (.ref b16), .val (.int (own_b (own_aft ta r1 tb rb = true))), .val (.int (own_b (own_aft tb rb ta r1 = true))), .val (.int (own_b (own_aft tb rb tc rc = true))), .val (.int (own_b (own_aft ta r1 tc rc = true))), .val (.int (own_b (ta = tb ∧ r1 = rb))), .unset]) rfl (Steps.refl _)) ?_
  show own_Go p e below _ (T21.setTop (mkF m 177 #[.val (.long t1), .second, .val (.long r1), .second, .val (.long t2), .second, .val (.long r2), .second, .val (.long t3), .second, .val (.int md), .val (.long (4611686018427387903 : Int64)), .second, .val (.long ta), .second, .val (.long tb), .second, .val (.long rb), .second, .val (.long tc), .second, .val (.long rc), .second, .val (.ref b12), .val (.ref b14), .val (.ref b16), .val (.int (own_b (own_aft ta r1 tb rb = true))), .val (.int (own_b (own_aft tb rb ta r1 = true))), .val (.int (own_b (own_aft tb rb tc rc = true))), .val (.int (own_b (own_aft ta r1 tc rc = true))), .val (.int (own_b (ta = tb ∧ r1 = rb))), .unset] []))
  refine own_go (XS.iload X21.here hx rfl (hb hby at_177) rfl (Steps.refl _)) ?_
  show own_Go p e below _ (T21.setTop (mkF m 179 #[.val (.long t1), .second, .val (.long r1), .second, .val (.long t2), .second, .val (.long r2), .second, .val (.long t3), .second, .val (.int md), .val (.long (4611686018427387903 : Int64)), .second, .val (.long ta), .second, .val (.long tb), .second, .val (.long rb), .second, .val (.long tc), .second, .val (.long rc), .second, .val (.ref b12), .val (.ref b14), .val (.ref b16), .val (.int (own_b (own_aft ta r1 tb rb = true))), .val (.int (own_b (own_aft tb rb ta r1 = true))), .val (.int (own_b (own_aft tb rb tc rc = true))), .val (.int (own_b (own_aft ta r1 tc rc = true))), .val (.int (own_b (ta = tb ∧ r1 = rb))), .unset] [(.int (own_b (own_aft ta r1 tb rb = true)))]))
  suffices J6 : ∀ vJ6 : Int32, vJ6 = own_b (own_aft ta r1 tb rb = true) → own_Go p e below (own_G s (fun v h L => v = some (.int 1) ∧ Fr n0 L) room_1.cells room_1.slots) (T21.setTop (mkF m 187 #[.val (.long t1), .second, .val (.long r1), .second, .val (.long t2), .second, .val (.long r2), .second, .val (.long t3), .second, .val (.int md), .val (.long (4611686018427387903 : Int64)), .second, .val (.long ta), .second, .val (.long tb), .second, .val (.long rb), .second, .val (.long tc), .second, .val (.long rc), .second, .val (.ref b12), .val (.ref b14), .val (.ref b16), .val (.int (own_b (own_aft ta r1 tb rb = true))), .val (.int (own_b (own_aft tb rb ta r1 = true))), .val (.int (own_b (own_aft tb rb tc rc = true))), .val (.int (own_b (own_aft ta r1 tc rc = true))), .val (.int (own_b (ta = tb ∧ r1 = rb))), .unset] [(.int vJ6)])) by
    by_cases hcJ6179 : own_aft ta r1 tb rb = true
    · refine own_go (XS.ifNo X21.here hx rfl (hb hby at_179) rfl ((if0 _ _).trans (feq (own_b_nz hcJ6179)).1) (Steps.refl _)) ?_
      show own_Go p e below _ (T21.setTop (mkF m 182 #[.val (.long t1), .second, .val (.long r1), .second, .val (.long t2), .second, .val (.long r2), .second, .val (.long t3), .second, .val (.int md), .val (.long (4611686018427387903 : Int64)), .second, .val (.long ta), .second, .val (.long tb), .second, .val (.long rb), .second, .val (.long tc), .second, .val (.long rc), .second, .val (.ref b12), .val (.ref b14), .val (.ref b16), .val (.int (own_b (own_aft ta r1 tb rb = true))), .val (.int (own_b (own_aft tb rb ta r1 = true))), .val (.int (own_b (own_aft tb rb tc rc = true))), .val (.int (own_b (own_aft ta r1 tc rc = true))), .val (.int (own_b (ta = tb ∧ r1 = rb))), .unset] []))
      refine own_go (XS.iconst X21.here hx rfl (hb hby at_182) (Steps.refl _)) ?_
      show own_Go p e below _ (T21.setTop (mkF m 183 #[.val (.long t1), .second, .val (.long r1), .second, .val (.long t2), .second, .val (.long r2), .second, .val (.long t3), .second, .val (.int md), .val (.long (4611686018427387903 : Int64)), .second, .val (.long ta), .second, .val (.long tb), .second, .val (.long rb), .second, .val (.long tc), .second, .val (.long rc), .second, .val (.ref b12), .val (.ref b14), .val (.ref b16), .val (.int (own_b (own_aft ta r1 tb rb = true))), .val (.int (own_b (own_aft tb rb ta r1 = true))), .val (.int (own_b (own_aft tb rb tc rc = true))), .val (.int (own_b (own_aft ta r1 tc rc = true))), .val (.int (own_b (ta = tb ∧ r1 = rb))), .unset] [(.int (1 : Int32))]))
      refine own_go (XS.goto X21.here hx rfl (pc0 := 183) (pc' := 187) rfl (hb hby at_183) (by decide) (by decide) (Steps.refl _)) ?_
      show own_Go p e below _ (T21.setTop (mkF m 187 #[.val (.long t1), .second, .val (.long r1), .second, .val (.long t2), .second, .val (.long r2), .second, .val (.long t3), .second, .val (.int md), .val (.long (4611686018427387903 : Int64)), .second, .val (.long ta), .second, .val (.long tb), .second, .val (.long rb), .second, .val (.long tc), .second, .val (.long rc), .second, .val (.ref b12), .val (.ref b14), .val (.ref b16), .val (.int (own_b (own_aft ta r1 tb rb = true))), .val (.int (own_b (own_aft tb rb ta r1 = true))), .val (.int (own_b (own_aft tb rb tc rc = true))), .val (.int (own_b (own_aft ta r1 tc rc = true))), .val (.int (own_b (ta = tb ∧ r1 = rb))), .unset] [(.int (1 : Int32))]))
      exact J6 _ (own_b_t (by simp [hcJ6179])).symm
    · refine own_go (XS.ifYes X21.here hx rfl (pc0 := 179) (pc' := 186) rfl (hb hby at_179) rfl ((if0 _ _).trans (teq (own_b_f hcJ6179)).1) (by decide) (by decide) (Steps.refl _)) ?_
      show own_Go p e below _ (T21.setTop (mkF m 186 #[.val (.long t1), .second, .val (.long r1), .second, .val (.long t2), .second, .val (.long r2), .second, .val (.long t3), .second, .val (.int md), .val (.long (4611686018427387903 : Int64)), .second, .val (.long ta), .second, .val (.long tb), .second, .val (.long rb), .second, .val (.long tc), .second, .val (.long rc), .second, .val (.ref b12), .val (.ref b14), .val (.ref b16), .val (.int (own_b (own_aft ta r1 tb rb = true))), .val (.int (own_b (own_aft tb rb ta r1 = true))), .val (.int (own_b (own_aft tb rb tc rc = true))), .val (.int (own_b (own_aft ta r1 tc rc = true))), .val (.int (own_b (ta = tb ∧ r1 = rb))), .unset] []))
      refine own_go (XS.iconst X21.here hx rfl (hb hby at_186) (Steps.refl _)) ?_
      show own_Go p e below _ (T21.setTop (mkF m 187 #[.val (.long t1), .second, .val (.long r1), .second, .val (.long t2), .second, .val (.long r2), .second, .val (.long t3), .second, .val (.int md), .val (.long (4611686018427387903 : Int64)), .second, .val (.long ta), .second, .val (.long tb), .second, .val (.long rb), .second, .val (.long tc), .second, .val (.long rc), .second, .val (.ref b12), .val (.ref b14), .val (.ref b16), .val (.int (own_b (own_aft ta r1 tb rb = true))), .val (.int (own_b (own_aft tb rb ta r1 = true))), .val (.int (own_b (own_aft tb rb tc rc = true))), .val (.int (own_b (own_aft ta r1 tc rc = true))), .val (.int (own_b (ta = tb ∧ r1 = rb))), .unset] [(.int (0 : Int32))]))
      exact J6 _ (own_b_f (by simp [hcJ6179])).symm
  intro vJ6 hvJ6
  subst hvJ6
  show own_Go p e below _ (T21.setTop (mkF m 187 #[.val (.long t1), .second, .val (.long r1), .second, .val (.long t2), .second, .val (.long r2), .second, .val (.long t3), .second, .val (.int md), .val (.long (4611686018427387903 : Int64)), .second, .val (.long ta), .second, .val (.long tb), .second, .val (.long rb), .second, .val (.long tc), .second, .val (.long rc), .second, .val (.ref b12), .val (.ref b14), .val (.ref b16), .val (.int (own_b (own_aft ta r1 tb rb = true))), .val (.int (own_b (own_aft tb rb ta r1 = true))), .val (.int (own_b (own_aft tb rb tc rc = true))), .val (.int (own_b (own_aft ta r1 tc rc = true))), .val (.int (own_b (ta = tb ∧ r1 = rb))), .unset] [(.int (own_b (own_aft ta r1 tb rb = true)))]))
  refine own_go (XS.iload X21.here hx rfl (hb hby at_187) rfl (Steps.refl _)) ?_
  show own_Go p e below _ (T21.setTop (mkF m 189 #[.val (.long t1), .second, .val (.long r1), .second, .val (.long t2), .second, .val (.long r2), .second, .val (.long t3), .second, .val (.int md), .val (.long (4611686018427387903 : Int64)), .second, .val (.long ta), .second, .val (.long tb), .second, .val (.long rb), .second, .val (.long tc), .second, .val (.long rc), .second, .val (.ref b12), .val (.ref b14), .val (.ref b16), .val (.int (own_b (own_aft ta r1 tb rb = true))), .val (.int (own_b (own_aft tb rb ta r1 = true))), .val (.int (own_b (own_aft tb rb tc rc = true))), .val (.int (own_b (own_aft ta r1 tc rc = true))), .val (.int (own_b (ta = tb ∧ r1 = rb))), .unset] [(.int (own_b (own_aft tb rb ta r1 = true))), (.int (own_b (own_aft ta r1 tb rb = true)))]))
  suffices J7 : ∀ vJ7 : Int32, vJ7 = own_b (own_aft tb rb ta r1 = true) → own_Go p e below (own_G s (fun v h L => v = some (.int 1) ∧ Fr n0 L) room_1.cells room_1.slots) (T21.setTop (mkF m 197 #[.val (.long t1), .second, .val (.long r1), .second, .val (.long t2), .second, .val (.long r2), .second, .val (.long t3), .second, .val (.int md), .val (.long (4611686018427387903 : Int64)), .second, .val (.long ta), .second, .val (.long tb), .second, .val (.long rb), .second, .val (.long tc), .second, .val (.long rc), .second, .val (.ref b12), .val (.ref b14), .val (.ref b16), .val (.int (own_b (own_aft ta r1 tb rb = true))), .val (.int (own_b (own_aft tb rb ta r1 = true))), .val (.int (own_b (own_aft tb rb tc rc = true))), .val (.int (own_b (own_aft ta r1 tc rc = true))), .val (.int (own_b (ta = tb ∧ r1 = rb))), .unset] [(.int vJ7), (.int (own_b (own_aft ta r1 tb rb = true)))])) by
    by_cases hcJ7189 : own_aft tb rb ta r1 = true
    · refine own_go (XS.ifNo X21.here hx rfl (hb hby at_189) rfl ((if0 _ _).trans (feq (own_b_nz hcJ7189)).1) (Steps.refl _)) ?_
      show own_Go p e below _ (T21.setTop (mkF m 192 #[.val (.long t1), .second, .val (.long r1), .second, .val (.long t2), .second, .val (.long r2), .second, .val (.long t3), .second, .val (.int md), .val (.long (4611686018427387903 : Int64)), .second, .val (.long ta), .second, .val (.long tb), .second, .val (.long rb), .second, .val (.long tc), .second, .val (.long rc), .second, .val (.ref b12), .val (.ref b14), .val (.ref b16), .val (.int (own_b (own_aft ta r1 tb rb = true))), .val (.int (own_b (own_aft tb rb ta r1 = true))), .val (.int (own_b (own_aft tb rb tc rc = true))), .val (.int (own_b (own_aft ta r1 tc rc = true))), .val (.int (own_b (ta = tb ∧ r1 = rb))), .unset] [(.int (own_b (own_aft ta r1 tb rb = true)))]))
      refine own_go (XS.iconst X21.here hx rfl (hb hby at_192) (Steps.refl _)) ?_
      show own_Go p e below _ (T21.setTop (mkF m 193 #[.val (.long t1), .second, .val (.long r1), .second, .val (.long t2), .second, .val (.long r2), .second, .val (.long t3), .second, .val (.int md), .val (.long (4611686018427387903 : Int64)), .second, .val (.long ta), .second, .val (.long tb), .second, .val (.long rb), .second, .val (.long tc), .second, .val (.long rc), .second, .val (.ref b12), .val (.ref b14), .val (.ref b16), .val (.int (own_b (own_aft ta r1 tb rb = true))), .val (.int (own_b (own_aft tb rb ta r1 = true))), .val (.int (own_b (own_aft tb rb tc rc = true))), .val (.int (own_b (own_aft ta r1 tc rc = true))), .val (.int (own_b (ta = tb ∧ r1 = rb))), .unset] [(.int (1 : Int32)), (.int (own_b (own_aft ta r1 tb rb = true)))]))
      refine own_go (XS.goto X21.here hx rfl (pc0 := 193) (pc' := 197) rfl (hb hby at_193) (by decide) (by decide) (Steps.refl _)) ?_
      show own_Go p e below _ (T21.setTop (mkF m 197 #[.val (.long t1), .second, .val (.long r1), .second, .val (.long t2), .second, .val (.long r2), .second, .val (.long t3), .second, .val (.int md), .val (.long (4611686018427387903 : Int64)), .second, .val (.long ta), .second, .val (.long tb), .second, .val (.long rb), .second, .val (.long tc), .second, .val (.long rc), .second, .val (.ref b12), .val (.ref b14), .val (.ref b16), .val (.int (own_b (own_aft ta r1 tb rb = true))), .val (.int (own_b (own_aft tb rb ta r1 = true))), .val (.int (own_b (own_aft tb rb tc rc = true))), .val (.int (own_b (own_aft ta r1 tc rc = true))), .val (.int (own_b (ta = tb ∧ r1 = rb))), .unset] [(.int (1 : Int32)), (.int (own_b (own_aft ta r1 tb rb = true)))]))
      exact J7 _ (own_b_t (by simp [hcJ7189])).symm
    · refine own_go (XS.ifYes X21.here hx rfl (pc0 := 189) (pc' := 196) rfl (hb hby at_189) rfl ((if0 _ _).trans (teq (own_b_f hcJ7189)).1) (by decide) (by decide) (Steps.refl _)) ?_
      show own_Go p e below _ (T21.setTop (mkF m 196 #[.val (.long t1), .second, .val (.long r1), .second, .val (.long t2), .second, .val (.long r2), .second, .val (.long t3), .second, .val (.int md), .val (.long (4611686018427387903 : Int64)), .second, .val (.long ta), .second, .val (.long tb), .second, .val (.long rb), .second, .val (.long tc), .second, .val (.long rc), .second, .val (.ref b12), .val (.ref b14), .val (.ref b16), .val (.int (own_b (own_aft ta r1 tb rb = true))), .val (.int (own_b (own_aft tb rb ta r1 = true))), .val (.int (own_b (own_aft tb rb tc rc = true))), .val (.int (own_b (own_aft ta r1 tc rc = true))), .val (.int (own_b (ta = tb ∧ r1 = rb))), .unset] [(.int (own_b (own_aft ta r1 tb rb = true)))]))
      refine own_go (XS.iconst X21.here hx rfl (hb hby at_196) (Steps.refl _)) ?_
      show own_Go p e below _ (T21.setTop (mkF m 197 #[.val (.long t1), .second, .val (.long r1), .second, .val (.long t2), .second, .val (.long r2), .second, .val (.long t3), .second, .val (.int md), .val (.long (4611686018427387903 : Int64)), .second, .val (.long ta), .second, .val (.long tb), .second, .val (.long rb), .second, .val (.long tc), .second, .val (.long rc), .second, .val (.ref b12), .val (.ref b14), .val (.ref b16), .val (.int (own_b (own_aft ta r1 tb rb = true))), .val (.int (own_b (own_aft tb rb ta r1 = true))), .val (.int (own_b (own_aft tb rb tc rc = true))), .val (.int (own_b (own_aft ta r1 tc rc = true))), .val (.int (own_b (ta = tb ∧ r1 = rb))), .unset] [(.int (0 : Int32)), (.int (own_b (own_aft ta r1 tb rb = true)))]))
      exact J7 _ (own_b_f (by simp [hcJ7189])).symm
  intro vJ7 hvJ7
  subst hvJ7
  show own_Go p e below _ (T21.setTop (mkF m 197 #[.val (.long t1), .second, .val (.long r1), .second, .val (.long t2), .second, .val (.long r2), .second, .val (.long t3), .second, .val (.int md), .val (.long (4611686018427387903 : Int64)), .second, .val (.long ta), .second, .val (.long tb), .second, .val (.long rb), .second, .val (.long tc), .second, .val (.long rc), .second, .val (.ref b12), .val (.ref b14), .val (.ref b16), .val (.int (own_b (own_aft ta r1 tb rb = true))), .val (.int (own_b (own_aft tb rb ta r1 = true))), .val (.int (own_b (own_aft tb rb tc rc = true))), .val (.int (own_b (own_aft ta r1 tc rc = true))), .val (.int (own_b (ta = tb ∧ r1 = rb))), .unset] [(.int (own_b (own_aft tb rb ta r1 = true))), (.int (own_b (own_aft ta r1 tb rb = true)))]))
  refine own_go (XS.iadd X21.here hx rfl (hb hby at_197) rfl (Steps.refl _)) ?_
  show own_Go p e below _ (T21.setTop (mkF m 198 #[.val (.long t1), .second, .val (.long r1), .second, .val (.long t2), .second, .val (.long r2), .second, .val (.long t3), .second, .val (.int md), .val (.long (4611686018427387903 : Int64)), .second, .val (.long ta), .second, .val (.long tb), .second, .val (.long rb), .second, .val (.long tc), .second, .val (.long rc), .second, .val (.ref b12), .val (.ref b14), .val (.ref b16), .val (.int (own_b (own_aft ta r1 tb rb = true))), .val (.int (own_b (own_aft tb rb ta r1 = true))), .val (.int (own_b (own_aft tb rb tc rc = true))), .val (.int (own_b (own_aft ta r1 tc rc = true))), .val (.int (own_b (ta = tb ∧ r1 = rb))), .unset] [(.int ((own_b (own_aft ta r1 tb rb = true)) + (own_b (own_aft tb rb ta r1 = true))))]))
  refine own_go (XS.iload X21.here hx rfl (hb hby at_198) rfl (Steps.refl _)) ?_
  show own_Go p e below _ (T21.setTop (mkF m 200 #[.val (.long t1), .second, .val (.long r1), .second, .val (.long t2), .second, .val (.long r2), .second, .val (.long t3), .second, .val (.int md), .val (.long (4611686018427387903 : Int64)), .second, .val (.long ta), .second, .val (.long tb), .second, .val (.long rb), .second, .val (.long tc), .second, .val (.long rc), .second, .val (.ref b12), .val (.ref b14), .val (.ref b16), .val (.int (own_b (own_aft ta r1 tb rb = true))), .val (.int (own_b (own_aft tb rb ta r1 = true))), .val (.int (own_b (own_aft tb rb tc rc = true))), .val (.int (own_b (own_aft ta r1 tc rc = true))), .val (.int (own_b (ta = tb ∧ r1 = rb))), .unset] [(.int (own_b (ta = tb ∧ r1 = rb))), (.int ((own_b (own_aft ta r1 tb rb = true)) + (own_b (own_aft tb rb ta r1 = true))))]))
  suffices J8 : ∀ vJ8 : Int32, vJ8 = own_b (ta = tb ∧ r1 = rb) → own_Go p e below (own_G s (fun v h L => v = some (.int 1) ∧ Fr n0 L) room_1.cells room_1.slots) (T21.setTop (mkF m 208 #[.val (.long t1), .second, .val (.long r1), .second, .val (.long t2), .second, .val (.long r2), .second, .val (.long t3), .second, .val (.int md), .val (.long (4611686018427387903 : Int64)), .second, .val (.long ta), .second, .val (.long tb), .second, .val (.long rb), .second, .val (.long tc), .second, .val (.long rc), .second, .val (.ref b12), .val (.ref b14), .val (.ref b16), .val (.int (own_b (own_aft ta r1 tb rb = true))), .val (.int (own_b (own_aft tb rb ta r1 = true))), .val (.int (own_b (own_aft tb rb tc rc = true))), .val (.int (own_b (own_aft ta r1 tc rc = true))), .val (.int (own_b (ta = tb ∧ r1 = rb))), .unset] [(.int vJ8), (.int ((own_b (own_aft ta r1 tb rb = true)) + (own_b (own_aft tb rb ta r1 = true))))])) by
    by_cases hcJ8200 : ta = tb ∧ r1 = rb
    · refine own_go (XS.ifNo X21.here hx rfl (hb hby at_200) rfl ((if0 _ _).trans (feq (own_b_nz hcJ8200)).1) (Steps.refl _)) ?_
      show own_Go p e below _ (T21.setTop (mkF m 203 #[.val (.long t1), .second, .val (.long r1), .second, .val (.long t2), .second, .val (.long r2), .second, .val (.long t3), .second, .val (.int md), .val (.long (4611686018427387903 : Int64)), .second, .val (.long ta), .second, .val (.long tb), .second, .val (.long rb), .second, .val (.long tc), .second, .val (.long rc), .second, .val (.ref b12), .val (.ref b14), .val (.ref b16), .val (.int (own_b (own_aft ta r1 tb rb = true))), .val (.int (own_b (own_aft tb rb ta r1 = true))), .val (.int (own_b (own_aft tb rb tc rc = true))), .val (.int (own_b (own_aft ta r1 tc rc = true))), .val (.int (own_b (ta = tb ∧ r1 = rb))), .unset] [(.int ((own_b (own_aft ta r1 tb rb = true)) + (own_b (own_aft tb rb ta r1 = true))))]))
      refine own_go (XS.iconst X21.here hx rfl (hb hby at_203) (Steps.refl _)) ?_
      show own_Go p e below _ (T21.setTop (mkF m 204 #[.val (.long t1), .second, .val (.long r1), .second, .val (.long t2), .second, .val (.long r2), .second, .val (.long t3), .second, .val (.int md), .val (.long (4611686018427387903 : Int64)), .second, .val (.long ta), .second, .val (.long tb), .second, .val (.long rb), .second, .val (.long tc), .second, .val (.long rc), .second, .val (.ref b12), .val (.ref b14), .val (.ref b16), .val (.int (own_b (own_aft ta r1 tb rb = true))), .val (.int (own_b (own_aft tb rb ta r1 = true))), .val (.int (own_b (own_aft tb rb tc rc = true))), .val (.int (own_b (own_aft ta r1 tc rc = true))), .val (.int (own_b (ta = tb ∧ r1 = rb))), .unset] [(.int (1 : Int32)), (.int ((own_b (own_aft ta r1 tb rb = true)) + (own_b (own_aft tb rb ta r1 = true))))]))
      refine own_go (XS.goto X21.here hx rfl (pc0 := 204) (pc' := 208) rfl (hb hby at_204) (by decide) (by decide) (Steps.refl _)) ?_
      show own_Go p e below _ (T21.setTop (mkF m 208 #[.val (.long t1), .second, .val (.long r1), .second, .val (.long t2), .second, .val (.long r2), .second, .val (.long t3), .second, .val (.int md), .val (.long (4611686018427387903 : Int64)), .second, .val (.long ta), .second, .val (.long tb), .second, .val (.long rb), .second, .val (.long tc), .second, .val (.long rc), .second, .val (.ref b12), .val (.ref b14), .val (.ref b16), .val (.int (own_b (own_aft ta r1 tb rb = true))), .val (.int (own_b (own_aft tb rb ta r1 = true))), .val (.int (own_b (own_aft tb rb tc rc = true))), .val (.int (own_b (own_aft ta r1 tc rc = true))), .val (.int (own_b (ta = tb ∧ r1 = rb))), .unset] [(.int (1 : Int32)), (.int ((own_b (own_aft ta r1 tb rb = true)) + (own_b (own_aft tb rb ta r1 = true))))]))
      exact J8 _ (own_b_t (by simp [hcJ8200])).symm
    · refine own_go (XS.ifYes X21.here hx rfl (pc0 := 200) (pc' := 207) rfl (hb hby at_200) rfl ((if0 _ _).trans (teq (own_b_f hcJ8200)).1) (by decide) (by decide) (Steps.refl _)) ?_
      show own_Go p e below _ (T21.setTop (mkF m 207 #[.val (.long t1), .second, .val (.long r1), .second, .val (.long t2), .second, .val (.long r2), .second, .val (.long t3), .second, .val (.int md), .val (.long (4611686018427387903 : Int64)), .second, .val (.long ta), .second, .val (.long tb), .second, .val (.long rb), .second, .val (.long tc), .second, .val (.long rc), .second, .val (.ref b12), .val (.ref b14), .val (.ref b16), .val (.int (own_b (own_aft ta r1 tb rb = true))), .val (.int (own_b (own_aft tb rb ta r1 = true))), .val (.int (own_b (own_aft tb rb tc rc = true))), .val (.int (own_b (own_aft ta r1 tc rc = true))), .val (.int (own_b (ta = tb ∧ r1 = rb))), .unset] [(.int ((own_b (own_aft ta r1 tb rb = true)) + (own_b (own_aft tb rb ta r1 = true))))]))
      refine own_go (XS.iconst X21.here hx rfl (hb hby at_207) (Steps.refl _)) ?_
      show own_Go p e below _ (T21.setTop (mkF m 208 #[.val (.long t1), .second, .val (.long r1), .second, .val (.long t2), .second, .val (.long r2), .second, .val (.long t3), .second, .val (.int md), .val (.long (4611686018427387903 : Int64)), .second, .val (.long ta), .second, .val (.long tb), .second, .val (.long rb), .second, .val (.long tc), .second, .val (.long rc), .second, .val (.ref b12), .val (.ref b14), .val (.ref b16), .val (.int (own_b (own_aft ta r1 tb rb = true))), .val (.int (own_b (own_aft tb rb ta r1 = true))), .val (.int (own_b (own_aft tb rb tc rc = true))), .val (.int (own_b (own_aft ta r1 tc rc = true))), .val (.int (own_b (ta = tb ∧ r1 = rb))), .unset] [(.int (0 : Int32)), (.int ((own_b (own_aft ta r1 tb rb = true)) + (own_b (own_aft tb rb ta r1 = true))))]))
      exact J8 _ (own_b_f (by simp [hcJ8200])).symm
  intro vJ8 hvJ8
  subst hvJ8
  show own_Go p e below _ (T21.setTop (mkF m 208 #[.val (.long t1), .second, .val (.long r1), .second, .val (.long t2), .second, .val (.long r2), .second, .val (.long t3), .second, .val (.int md), .val (.long (4611686018427387903 : Int64)), .second, .val (.long ta), .second, .val (.long tb), .second, .val (.long rb), .second, .val (.long tc), .second, .val (.long rc), .second, .val (.ref b12), .val (.ref b14), .val (.ref b16), .val (.int (own_b (own_aft ta r1 tb rb = true))), .val (.int (own_b (own_aft tb rb ta r1 = true))), .val (.int (own_b (own_aft tb rb tc rc = true))), .val (.int (own_b (own_aft ta r1 tc rc = true))), .val (.int (own_b (ta = tb ∧ r1 = rb))), .unset] [(.int (own_b (ta = tb ∧ r1 = rb))), (.int ((own_b (own_aft ta r1 tb rb = true)) + (own_b (own_aft tb rb ta r1 = true))))]))
  refine own_go (XS.iadd X21.here hx rfl (hb hby at_208) rfl (Steps.refl _)) ?_
  show own_Go p e below _ (T21.setTop (mkF m 209 #[.val (.long t1), .second, .val (.long r1), .second, .val (.long t2), .second, .val (.long r2), .second, .val (.long t3), .second, .val (.int md), .val (.long (4611686018427387903 : Int64)), .second, .val (.long ta), .second, .val (.long tb), .second, .val (.long rb), .second, .val (.long tc), .second, .val (.long rc), .second, .val (.ref b12), .val (.ref b14), .val (.ref b16), .val (.int (own_b (own_aft ta r1 tb rb = true))), .val (.int (own_b (own_aft tb rb ta r1 = true))), .val (.int (own_b (own_aft tb rb tc rc = true))), .val (.int (own_b (own_aft ta r1 tc rc = true))), .val (.int (own_b (ta = tb ∧ r1 = rb))), .unset] [(.int (((own_b (own_aft ta r1 tb rb = true)) + (own_b (own_aft tb rb ta r1 = true))) + (own_b (ta = tb ∧ r1 = rb))))]))
  refine own_go (XS.istore X21.here hx rfl (hb hby at_209) rfl (l' := #[.val (.long t1), .second, .val (.long r1), .second, .val (.long t2), .second, .val (.long r2), .second, .val (.long t3), .second, .val (.int md), .val (.long (4611686018427387903 : Int64)), .second, .val (.long ta), .second, .val (.long tb), .second, .val (.long rb), .second, .val (.long tc), .second, .val (.long rc), .second, .val (.ref b12), .val (.ref b14), .val (.ref b16), .val (.int (own_b (own_aft ta r1 tb rb = true))), .val (.int (own_b (own_aft tb rb ta r1 = true))), .val (.int (own_b (own_aft tb rb tc rc = true))), .val (.int (own_b (own_aft ta r1 tc rc = true))), .val (.int (own_b (ta = tb ∧ r1 = rb))), .val (.int (((own_b (own_aft ta r1 tb rb = true)) + (own_b (own_aft tb rb ta r1 = true))) + (own_b (ta = tb ∧ r1 = rb))))]) rfl (Steps.refl _)) ?_
  show own_Go p e below _ (T21.setTop (mkF m 211 #[.val (.long t1), .second, .val (.long r1), .second, .val (.long t2), .second, .val (.long r2), .second, .val (.long t3), .second, .val (.int md), .val (.long (4611686018427387903 : Int64)), .second, .val (.long ta), .second, .val (.long tb), .second, .val (.long rb), .second, .val (.long tc), .second, .val (.long rc), .second, .val (.ref b12), .val (.ref b14), .val (.ref b16), .val (.int (own_b (own_aft ta r1 tb rb = true))), .val (.int (own_b (own_aft tb rb ta r1 = true))), .val (.int (own_b (own_aft tb rb tc rc = true))), .val (.int (own_b (own_aft ta r1 tc rc = true))), .val (.int (own_b (ta = tb ∧ r1 = rb))), .val (.int (((own_b (own_aft ta r1 tb rb = true)) + (own_b (own_aft tb rb ta r1 = true))) + (own_b (ta = tb ∧ r1 = rb))))] []))
  refine own_go (XS.iload X21.here hx rfl (hb hby at_211) rfl (Steps.refl _)) ?_
  show own_Go p e below _ (T21.setTop (mkF m 213 #[.val (.long t1), .second, .val (.long r1), .second, .val (.long t2), .second, .val (.long r2), .second, .val (.long t3), .second, .val (.int md), .val (.long (4611686018427387903 : Int64)), .second, .val (.long ta), .second, .val (.long tb), .second, .val (.long rb), .second, .val (.long tc), .second, .val (.long rc), .second, .val (.ref b12), .val (.ref b14), .val (.ref b16), .val (.int (own_b (own_aft ta r1 tb rb = true))), .val (.int (own_b (own_aft tb rb ta r1 = true))), .val (.int (own_b (own_aft tb rb tc rc = true))), .val (.int (own_b (own_aft ta r1 tc rc = true))), .val (.int (own_b (ta = tb ∧ r1 = rb))), .val (.int (((own_b (own_aft ta r1 tb rb = true)) + (own_b (own_aft tb rb ta r1 = true))) + (own_b (ta = tb ∧ r1 = rb))))] [(.int (((own_b (own_aft ta r1 tb rb = true)) + (own_b (own_aft tb rb ta r1 = true))) + (own_b (ta = tb ∧ r1 = rb))))]))
  refine own_go (XS.iconst X21.here hx rfl (hb hby at_213) (Steps.refl _)) ?_
  show own_Go p e below _ (T21.setTop (mkF m 214 #[.val (.long t1), .second, .val (.long r1), .second, .val (.long t2), .second, .val (.long r2), .second, .val (.long t3), .second, .val (.int md), .val (.long (4611686018427387903 : Int64)), .second, .val (.long ta), .second, .val (.long tb), .second, .val (.long rb), .second, .val (.long tc), .second, .val (.long rc), .second, .val (.ref b12), .val (.ref b14), .val (.ref b16), .val (.int (own_b (own_aft ta r1 tb rb = true))), .val (.int (own_b (own_aft tb rb ta r1 = true))), .val (.int (own_b (own_aft tb rb tc rc = true))), .val (.int (own_b (own_aft ta r1 tc rc = true))), .val (.int (own_b (ta = tb ∧ r1 = rb))), .val (.int (((own_b (own_aft ta r1 tb rb = true)) + (own_b (own_aft tb rb ta r1 = true))) + (own_b (ta = tb ∧ r1 = rb))))] [(.int (1 : Int32)), (.int (((own_b (own_aft ta r1 tb rb = true)) + (own_b (own_aft tb rb ta r1 = true))) + (own_b (ta = tb ∧ r1 = rb))))]))
  refine own_go (XS.icmpYes X21.here hx rfl (pc0 := 214) (pc' := 219) rfl (hb hby at_214) rfl (teq (own_tri ta r1 tb rb)).1 (by decide) (by decide) (Steps.refl _)) ?_
  show own_Go p e below _ (T21.setTop (mkF m 219 #[.val (.long t1), .second, .val (.long r1), .second, .val (.long t2), .second, .val (.long r2), .second, .val (.long t3), .second, .val (.int md), .val (.long (4611686018427387903 : Int64)), .second, .val (.long ta), .second, .val (.long tb), .second, .val (.long rb), .second, .val (.long tc), .second, .val (.long rc), .second, .val (.ref b12), .val (.ref b14), .val (.ref b16), .val (.int (own_b (own_aft ta r1 tb rb = true))), .val (.int (own_b (own_aft tb rb ta r1 = true))), .val (.int (own_b (own_aft tb rb tc rc = true))), .val (.int (own_b (own_aft ta r1 tc rc = true))), .val (.int (own_b (ta = tb ∧ r1 = rb))), .val (.int (((own_b (own_aft ta r1 tb rb = true)) + (own_b (own_aft tb rb ta r1 = true))) + (own_b (ta = tb ∧ r1 = rb))))] []))
  refine own_go (XS.lload X21.here hx rfl (hb hby at_219) rfl (Steps.refl _)) ?_
  show own_Go p e below _ (T21.setTop (mkF m 221 #[.val (.long t1), .second, .val (.long r1), .second, .val (.long t2), .second, .val (.long r2), .second, .val (.long t3), .second, .val (.int md), .val (.long (4611686018427387903 : Int64)), .second, .val (.long ta), .second, .val (.long tb), .second, .val (.long rb), .second, .val (.long tc), .second, .val (.long rc), .second, .val (.ref b12), .val (.ref b14), .val (.ref b16), .val (.int (own_b (own_aft ta r1 tb rb = true))), .val (.int (own_b (own_aft tb rb ta r1 = true))), .val (.int (own_b (own_aft tb rb tc rc = true))), .val (.int (own_b (own_aft ta r1 tc rc = true))), .val (.int (own_b (ta = tb ∧ r1 = rb))), .val (.int (((own_b (own_aft ta r1 tb rb = true)) + (own_b (own_aft tb rb ta r1 = true))) + (own_b (ta = tb ∧ r1 = rb))))] [(.long ta)]))
  refine own_go (XS.lload X21.here hx rfl (hb hby at_221) rfl (Steps.refl _)) ?_
  show own_Go p e below _ (T21.setTop (mkF m 223 #[.val (.long t1), .second, .val (.long r1), .second, .val (.long t2), .second, .val (.long r2), .second, .val (.long t3), .second, .val (.int md), .val (.long (4611686018427387903 : Int64)), .second, .val (.long ta), .second, .val (.long tb), .second, .val (.long rb), .second, .val (.long tc), .second, .val (.long rc), .second, .val (.ref b12), .val (.ref b14), .val (.ref b16), .val (.int (own_b (own_aft ta r1 tb rb = true))), .val (.int (own_b (own_aft tb rb ta r1 = true))), .val (.int (own_b (own_aft tb rb tc rc = true))), .val (.int (own_b (own_aft ta r1 tc rc = true))), .val (.int (own_b (ta = tb ∧ r1 = rb))), .val (.int (((own_b (own_aft ta r1 tb rb = true)) + (own_b (own_aft tb rb ta r1 = true))) + (own_b (ta = tb ∧ r1 = rb))))] [(.long tb), (.long ta)]))
  refine own_go (XS.lcmp X21.here hx rfl (hb hby at_223) rfl (Steps.refl _)) ?_
  show own_Go p e below _ (T21.setTop (mkF m 224 #[.val (.long t1), .second, .val (.long r1), .second, .val (.long t2), .second, .val (.long r2), .second, .val (.long t3), .second, .val (.int md), .val (.long (4611686018427387903 : Int64)), .second, .val (.long ta), .second, .val (.long tb), .second, .val (.long rb), .second, .val (.long tc), .second, .val (.long rc), .second, .val (.ref b12), .val (.ref b14), .val (.ref b16), .val (.int (own_b (own_aft ta r1 tb rb = true))), .val (.int (own_b (own_aft tb rb ta r1 = true))), .val (.int (own_b (own_aft tb rb tc rc = true))), .val (.int (own_b (own_aft ta r1 tc rc = true))), .val (.int (own_b (ta = tb ∧ r1 = rb))), .val (.int (((own_b (own_aft ta r1 tb rb = true)) + (own_b (own_aft tb rb ta r1 = true))) + (own_b (ta = tb ∧ r1 = rb))))] [(.int (lcmpW ta tb))]))
  suffices J9 : own_Go p e below (own_G s (fun v h L => v = some (.int 1) ∧ Fr n0 L) room_1.cells room_1.slots) (T21.setTop (mkF m 234 #[.val (.long t1), .second, .val (.long r1), .second, .val (.long t2), .second, .val (.long r2), .second, .val (.long t3), .second, .val (.int md), .val (.long (4611686018427387903 : Int64)), .second, .val (.long ta), .second, .val (.long tb), .second, .val (.long rb), .second, .val (.long tc), .second, .val (.long rc), .second, .val (.ref b12), .val (.ref b14), .val (.ref b16), .val (.int (own_b (own_aft ta r1 tb rb = true))), .val (.int (own_b (own_aft tb rb ta r1 = true))), .val (.int (own_b (own_aft tb rb tc rc = true))), .val (.int (own_b (own_aft ta r1 tc rc = true))), .val (.int (own_b (ta = tb ∧ r1 = rb))), .val (.int (((own_b (own_aft ta r1 tb rb = true)) + (own_b (own_aft tb rb ta r1 = true))) + (own_b (ta = tb ∧ r1 = rb))))] [])) by
    by_cases hc224 : tb < ta
    · refine own_go (XS.ifNo X21.here hx rfl (hb hby at_224) rfl (own_tgtJ hc224).2 (Steps.refl _)) ?_
      show own_Go p e below _ (T21.setTop (mkF m 227 #[.val (.long t1), .second, .val (.long r1), .second, .val (.long t2), .second, .val (.long r2), .second, .val (.long t3), .second, .val (.int md), .val (.long (4611686018427387903 : Int64)), .second, .val (.long ta), .second, .val (.long tb), .second, .val (.long rb), .second, .val (.long tc), .second, .val (.long rc), .second, .val (.ref b12), .val (.ref b14), .val (.ref b16), .val (.int (own_b (own_aft ta r1 tb rb = true))), .val (.int (own_b (own_aft tb rb ta r1 = true))), .val (.int (own_b (own_aft tb rb tc rc = true))), .val (.int (own_b (own_aft ta r1 tc rc = true))), .val (.int (own_b (ta = tb ∧ r1 = rb))), .val (.int (((own_b (own_aft ta r1 tb rb = true)) + (own_b (own_aft tb rb ta r1 = true))) + (own_b (ta = tb ∧ r1 = rb))))] []))
      refine own_go (XS.iload X21.here hx rfl (hb hby at_227) rfl (Steps.refl _)) ?_
      show own_Go p e below _ (T21.setTop (mkF m 229 #[.val (.long t1), .second, .val (.long r1), .second, .val (.long t2), .second, .val (.long r2), .second, .val (.long t3), .second, .val (.int md), .val (.long (4611686018427387903 : Int64)), .second, .val (.long ta), .second, .val (.long tb), .second, .val (.long rb), .second, .val (.long tc), .second, .val (.long rc), .second, .val (.ref b12), .val (.ref b14), .val (.ref b16), .val (.int (own_b (own_aft ta r1 tb rb = true))), .val (.int (own_b (own_aft tb rb ta r1 = true))), .val (.int (own_b (own_aft tb rb tc rc = true))), .val (.int (own_b (own_aft ta r1 tc rc = true))), .val (.int (own_b (ta = tb ∧ r1 = rb))), .val (.int (((own_b (own_aft ta r1 tb rb = true)) + (own_b (own_aft tb rb ta r1 = true))) + (own_b (ta = tb ∧ r1 = rb))))] [(.int (own_b (own_aft ta r1 tb rb = true)))]))
      refine own_go (XS.ifYes X21.here hx rfl (pc0 := 229) (pc' := 234) rfl (hb hby at_229) rfl ((if0 _ _).trans (feq (own_b_nz (own_gt _ _ hc224))).2) (by decide) (by decide) (Steps.refl _)) ?_
      show own_Go p e below _ (T21.setTop (mkF m 234 #[.val (.long t1), .second, .val (.long r1), .second, .val (.long t2), .second, .val (.long r2), .second, .val (.long t3), .second, .val (.int md), .val (.long (4611686018427387903 : Int64)), .second, .val (.long ta), .second, .val (.long tb), .second, .val (.long rb), .second, .val (.long tc), .second, .val (.long rc), .second, .val (.ref b12), .val (.ref b14), .val (.ref b16), .val (.int (own_b (own_aft ta r1 tb rb = true))), .val (.int (own_b (own_aft tb rb ta r1 = true))), .val (.int (own_b (own_aft tb rb tc rc = true))), .val (.int (own_b (own_aft ta r1 tc rc = true))), .val (.int (own_b (ta = tb ∧ r1 = rb))), .val (.int (((own_b (own_aft ta r1 tb rb = true)) + (own_b (own_aft tb rb ta r1 = true))) + (own_b (ta = tb ∧ r1 = rb))))] []))
      exact J9
    · refine own_go (XS.ifYes X21.here hx rfl (pc0 := 224) (pc' := 234) rfl (hb hby at_224) rfl (own_fgtJ hc224).2 (by decide) (by decide) (Steps.refl _)) ?_
      show own_Go p e below _ (T21.setTop (mkF m 234 #[.val (.long t1), .second, .val (.long r1), .second, .val (.long t2), .second, .val (.long r2), .second, .val (.long t3), .second, .val (.int md), .val (.long (4611686018427387903 : Int64)), .second, .val (.long ta), .second, .val (.long tb), .second, .val (.long rb), .second, .val (.long tc), .second, .val (.long rc), .second, .val (.ref b12), .val (.ref b14), .val (.ref b16), .val (.int (own_b (own_aft ta r1 tb rb = true))), .val (.int (own_b (own_aft tb rb ta r1 = true))), .val (.int (own_b (own_aft tb rb tc rc = true))), .val (.int (own_b (own_aft ta r1 tc rc = true))), .val (.int (own_b (ta = tb ∧ r1 = rb))), .val (.int (((own_b (own_aft ta r1 tb rb = true)) + (own_b (own_aft tb rb ta r1 = true))) + (own_b (ta = tb ∧ r1 = rb))))] []))
      exact J9
  show own_Go p e below _ (T21.setTop (mkF m 234 #[.val (.long t1), .second, .val (.long r1), .second, .val (.long t2), .second, .val (.long r2), .second, .val (.long t3), .second, .val (.int md), .val (.long (4611686018427387903 : Int64)), .second, .val (.long ta), .second, .val (.long tb), .second, .val (.long rb), .second, .val (.long tc), .second, .val (.long rc), .second, .val (.ref b12), .val (.ref b14), .val (.ref b16), .val (.int (own_b (own_aft ta r1 tb rb = true))), .val (.int (own_b (own_aft tb rb ta r1 = true))), .val (.int (own_b (own_aft tb rb tc rc = true))), .val (.int (own_b (own_aft ta r1 tc rc = true))), .val (.int (own_b (ta = tb ∧ r1 = rb))), .val (.int (((own_b (own_aft ta r1 tb rb = true)) + (own_b (own_aft tb rb ta r1 = true))) + (own_b (ta = tb ∧ r1 = rb))))] []))
  refine own_go (XS.lload X21.here hx rfl (hb hby at_234) rfl (Steps.refl _)) ?_
  show own_Go p e below _ (T21.setTop (mkF m 236 #[.val (.long t1), .second, .val (.long r1), .second, .val (.long t2), .second, .val (.long r2), .second, .val (.long t3), .second, .val (.int md), .val (.long (4611686018427387903 : Int64)), .second, .val (.long ta), .second, .val (.long tb), .second, .val (.long rb), .second, .val (.long tc), .second, .val (.long rc), .second, .val (.ref b12), .val (.ref b14), .val (.ref b16), .val (.int (own_b (own_aft ta r1 tb rb = true))), .val (.int (own_b (own_aft tb rb ta r1 = true))), .val (.int (own_b (own_aft tb rb tc rc = true))), .val (.int (own_b (own_aft ta r1 tc rc = true))), .val (.int (own_b (ta = tb ∧ r1 = rb))), .val (.int (((own_b (own_aft ta r1 tb rb = true)) + (own_b (own_aft tb rb ta r1 = true))) + (own_b (ta = tb ∧ r1 = rb))))] [(.long ta)]))
  refine own_go (XS.lload X21.here hx rfl (hb hby at_236) rfl (Steps.refl _)) ?_
  show own_Go p e below _ (T21.setTop (mkF m 238 #[.val (.long t1), .second, .val (.long r1), .second, .val (.long t2), .second, .val (.long r2), .second, .val (.long t3), .second, .val (.int md), .val (.long (4611686018427387903 : Int64)), .second, .val (.long ta), .second, .val (.long tb), .second, .val (.long rb), .second, .val (.long tc), .second, .val (.long rc), .second, .val (.ref b12), .val (.ref b14), .val (.ref b16), .val (.int (own_b (own_aft ta r1 tb rb = true))), .val (.int (own_b (own_aft tb rb ta r1 = true))), .val (.int (own_b (own_aft tb rb tc rc = true))), .val (.int (own_b (own_aft ta r1 tc rc = true))), .val (.int (own_b (ta = tb ∧ r1 = rb))), .val (.int (((own_b (own_aft ta r1 tb rb = true)) + (own_b (own_aft tb rb ta r1 = true))) + (own_b (ta = tb ∧ r1 = rb))))] [(.long tb), (.long ta)]))
  refine own_go (XS.lcmp X21.here hx rfl (hb hby at_238) rfl (Steps.refl _)) ?_
  show own_Go p e below _ (T21.setTop (mkF m 239 #[.val (.long t1), .second, .val (.long r1), .second, .val (.long t2), .second, .val (.long r2), .second, .val (.long t3), .second, .val (.int md), .val (.long (4611686018427387903 : Int64)), .second, .val (.long ta), .second, .val (.long tb), .second, .val (.long rb), .second, .val (.long tc), .second, .val (.long rc), .second, .val (.ref b12), .val (.ref b14), .val (.ref b16), .val (.int (own_b (own_aft ta r1 tb rb = true))), .val (.int (own_b (own_aft tb rb ta r1 = true))), .val (.int (own_b (own_aft tb rb tc rc = true))), .val (.int (own_b (own_aft ta r1 tc rc = true))), .val (.int (own_b (ta = tb ∧ r1 = rb))), .val (.int (((own_b (own_aft ta r1 tb rb = true)) + (own_b (own_aft tb rb ta r1 = true))) + (own_b (ta = tb ∧ r1 = rb))))] [(.int (lcmpW ta tb))]))
  suffices J10 : own_Go p e below (own_G s (fun v h L => v = some (.int 1) ∧ Fr n0 L) room_1.cells room_1.slots) (T21.setTop (mkF m 261 #[.val (.long t1), .second, .val (.long r1), .second, .val (.long t2), .second, .val (.long r2), .second, .val (.long t3), .second, .val (.int md), .val (.long (4611686018427387903 : Int64)), .second, .val (.long ta), .second, .val (.long tb), .second, .val (.long rb), .second, .val (.long tc), .second, .val (.long rc), .second, .val (.ref b12), .val (.ref b14), .val (.ref b16), .val (.int (own_b (own_aft ta r1 tb rb = true))), .val (.int (own_b (own_aft tb rb ta r1 = true))), .val (.int (own_b (own_aft tb rb tc rc = true))), .val (.int (own_b (own_aft ta r1 tc rc = true))), .val (.int (own_b (ta = tb ∧ r1 = rb))), .val (.int (((own_b (own_aft ta r1 tb rb = true)) + (own_b (own_aft tb rb ta r1 = true))) + (own_b (ta = tb ∧ r1 = rb))))] [])) by
    by_cases hc239 : ta = tb
    · refine own_go (XS.ifNo X21.here hx rfl (hb hby at_239) rfl (own_teqJ hc239).2 (Steps.refl _)) ?_
      show own_Go p e below _ (T21.setTop (mkF m 242 #[.val (.long t1), .second, .val (.long r1), .second, .val (.long t2), .second, .val (.long r2), .second, .val (.long t3), .second, .val (.int md), .val (.long (4611686018427387903 : Int64)), .second, .val (.long ta), .second, .val (.long tb), .second, .val (.long rb), .second, .val (.long tc), .second, .val (.long rc), .second, .val (.ref b12), .val (.ref b14), .val (.ref b16), .val (.int (own_b (own_aft ta r1 tb rb = true))), .val (.int (own_b (own_aft tb rb ta r1 = true))), .val (.int (own_b (own_aft tb rb tc rc = true))), .val (.int (own_b (own_aft ta r1 tc rc = true))), .val (.int (own_b (ta = tb ∧ r1 = rb))), .val (.int (((own_b (own_aft ta r1 tb rb = true)) + (own_b (own_aft tb rb ta r1 = true))) + (own_b (ta = tb ∧ r1 = rb))))] []))
      refine own_go (XS.iload X21.here hx rfl (hb hby at_242) rfl (Steps.refl _)) ?_
      show own_Go p e below _ (T21.setTop (mkF m 244 #[.val (.long t1), .second, .val (.long r1), .second, .val (.long t2), .second, .val (.long r2), .second, .val (.long t3), .second, .val (.int md), .val (.long (4611686018427387903 : Int64)), .second, .val (.long ta), .second, .val (.long tb), .second, .val (.long rb), .second, .val (.long tc), .second, .val (.long rc), .second, .val (.ref b12), .val (.ref b14), .val (.ref b16), .val (.int (own_b (own_aft ta r1 tb rb = true))), .val (.int (own_b (own_aft tb rb ta r1 = true))), .val (.int (own_b (own_aft tb rb tc rc = true))), .val (.int (own_b (own_aft ta r1 tc rc = true))), .val (.int (own_b (ta = tb ∧ r1 = rb))), .val (.int (((own_b (own_aft ta r1 tb rb = true)) + (own_b (own_aft tb rb ta r1 = true))) + (own_b (ta = tb ∧ r1 = rb))))] [(.int (own_b (own_aft ta r1 tb rb = true)))]))
      refine own_go (XS.lloadN X21.here hx rfl (hb hby at_244) rfl (Steps.refl _)) ?_
      show own_Go p e below _ (T21.setTop (mkF m 245 #[.val (.long t1), .second, .val (.long r1), .second, .val (.long t2), .second, .val (.long r2), .second, .val (.long t3), .second, .val (.int md), .val (.long (4611686018427387903 : Int64)), .second, .val (.long ta), .second, .val (.long tb), .second, .val (.long rb), .second, .val (.long tc), .second, .val (.long rc), .second, .val (.ref b12), .val (.ref b14), .val (.ref b16), .val (.int (own_b (own_aft ta r1 tb rb = true))), .val (.int (own_b (own_aft tb rb ta r1 = true))), .val (.int (own_b (own_aft tb rb tc rc = true))), .val (.int (own_b (own_aft ta r1 tc rc = true))), .val (.int (own_b (ta = tb ∧ r1 = rb))), .val (.int (((own_b (own_aft ta r1 tb rb = true)) + (own_b (own_aft tb rb ta r1 = true))) + (own_b (ta = tb ∧ r1 = rb))))] [(.long r1), (.int (own_b (own_aft ta r1 tb rb = true)))]))
      refine own_go (XS.lload X21.here hx rfl (hb hby at_245) rfl (Steps.refl _)) ?_
      show own_Go p e below _ (T21.setTop (mkF m 247 #[.val (.long t1), .second, .val (.long r1), .second, .val (.long t2), .second, .val (.long r2), .second, .val (.long t3), .second, .val (.int md), .val (.long (4611686018427387903 : Int64)), .second, .val (.long ta), .second, .val (.long tb), .second, .val (.long rb), .second, .val (.long tc), .second, .val (.long rc), .second, .val (.ref b12), .val (.ref b14), .val (.ref b16), .val (.int (own_b (own_aft ta r1 tb rb = true))), .val (.int (own_b (own_aft tb rb ta r1 = true))), .val (.int (own_b (own_aft tb rb tc rc = true))), .val (.int (own_b (own_aft ta r1 tc rc = true))), .val (.int (own_b (ta = tb ∧ r1 = rb))), .val (.int (((own_b (own_aft ta r1 tb rb = true)) + (own_b (own_aft tb rb ta r1 = true))) + (own_b (ta = tb ∧ r1 = rb))))] [(.long rb), (.long r1), (.int (own_b (own_aft ta r1 tb rb = true)))]))
      refine own_go (XS.lcmp X21.here hx rfl (hb hby at_247) rfl (Steps.refl _)) ?_
      show own_Go p e below _ (T21.setTop (mkF m 248 #[.val (.long t1), .second, .val (.long r1), .second, .val (.long t2), .second, .val (.long r2), .second, .val (.long t3), .second, .val (.int md), .val (.long (4611686018427387903 : Int64)), .second, .val (.long ta), .second, .val (.long tb), .second, .val (.long rb), .second, .val (.long tc), .second, .val (.long rc), .second, .val (.ref b12), .val (.ref b14), .val (.ref b16), .val (.int (own_b (own_aft ta r1 tb rb = true))), .val (.int (own_b (own_aft tb rb ta r1 = true))), .val (.int (own_b (own_aft tb rb tc rc = true))), .val (.int (own_b (own_aft ta r1 tc rc = true))), .val (.int (own_b (ta = tb ∧ r1 = rb))), .val (.int (((own_b (own_aft ta r1 tb rb = true)) + (own_b (own_aft tb rb ta r1 = true))) + (own_b (ta = tb ∧ r1 = rb))))] [(.int (lcmpW r1 rb)), (.int (own_b (own_aft ta r1 tb rb = true)))]))
      by_cases hc248 : rb < r1
      · refine own_go (XS.ifNo X21.here hx rfl (hb hby at_248) rfl (own_tgtJ hc248).2 (Steps.refl _)) ?_
        show own_Go p e below _ (T21.setTop (mkF m 251 #[.val (.long t1), .second, .val (.long r1), .second, .val (.long t2), .second, .val (.long r2), .second, .val (.long t3), .second, .val (.int md), .val (.long (4611686018427387903 : Int64)), .second, .val (.long ta), .second, .val (.long tb), .second, .val (.long rb), .second, .val (.long tc), .second, .val (.long rc), .second, .val (.ref b12), .val (.ref b14), .val (.ref b16), .val (.int (own_b (own_aft ta r1 tb rb = true))), .val (.int (own_b (own_aft tb rb ta r1 = true))), .val (.int (own_b (own_aft tb rb tc rc = true))), .val (.int (own_b (own_aft ta r1 tc rc = true))), .val (.int (own_b (ta = tb ∧ r1 = rb))), .val (.int (((own_b (own_aft ta r1 tb rb = true)) + (own_b (own_aft tb rb ta r1 = true))) + (own_b (ta = tb ∧ r1 = rb))))] [(.int (own_b (own_aft ta r1 tb rb = true)))]))
        refine own_go (XS.iconst X21.here hx rfl (hb hby at_251) (Steps.refl _)) ?_
        show own_Go p e below _ (T21.setTop (mkF m 252 #[.val (.long t1), .second, .val (.long r1), .second, .val (.long t2), .second, .val (.long r2), .second, .val (.long t3), .second, .val (.int md), .val (.long (4611686018427387903 : Int64)), .second, .val (.long ta), .second, .val (.long tb), .second, .val (.long rb), .second, .val (.long tc), .second, .val (.long rc), .second, .val (.ref b12), .val (.ref b14), .val (.ref b16), .val (.int (own_b (own_aft ta r1 tb rb = true))), .val (.int (own_b (own_aft tb rb ta r1 = true))), .val (.int (own_b (own_aft tb rb tc rc = true))), .val (.int (own_b (own_aft ta r1 tc rc = true))), .val (.int (own_b (ta = tb ∧ r1 = rb))), .val (.int (((own_b (own_aft ta r1 tb rb = true)) + (own_b (own_aft tb rb ta r1 = true))) + (own_b (ta = tb ∧ r1 = rb))))] [(.int (1 : Int32)), (.int (own_b (own_aft ta r1 tb rb = true)))]))
        refine own_go (XS.goto X21.here hx rfl (pc0 := 252) (pc' := 256) rfl (hb hby at_252) (by decide) (by decide) (Steps.refl _)) ?_
        show own_Go p e below _ (T21.setTop (mkF m 256 #[.val (.long t1), .second, .val (.long r1), .second, .val (.long t2), .second, .val (.long r2), .second, .val (.long t3), .second, .val (.int md), .val (.long (4611686018427387903 : Int64)), .second, .val (.long ta), .second, .val (.long tb), .second, .val (.long rb), .second, .val (.long tc), .second, .val (.long rc), .second, .val (.ref b12), .val (.ref b14), .val (.ref b16), .val (.int (own_b (own_aft ta r1 tb rb = true))), .val (.int (own_b (own_aft tb rb ta r1 = true))), .val (.int (own_b (own_aft tb rb tc rc = true))), .val (.int (own_b (own_aft ta r1 tc rc = true))), .val (.int (own_b (ta = tb ∧ r1 = rb))), .val (.int (((own_b (own_aft ta r1 tb rb = true)) + (own_b (own_aft tb rb ta r1 = true))) + (own_b (ta = tb ∧ r1 = rb))))] [(.int (1 : Int32)), (.int (own_b (own_aft ta r1 tb rb = true)))]))
        refine own_go (XS.icmpYes X21.here hx rfl (pc0 := 256) (pc' := 261) rfl (hb hby at_256) rfl (teq (own_tie _ _ hc239 hc248)).1 (by decide) (by decide) (Steps.refl _)) ?_
        show own_Go p e below _ (T21.setTop (mkF m 261 #[.val (.long t1), .second, .val (.long r1), .second, .val (.long t2), .second, .val (.long r2), .second, .val (.long t3), .second, .val (.int md), .val (.long (4611686018427387903 : Int64)), .second, .val (.long ta), .second, .val (.long tb), .second, .val (.long rb), .second, .val (.long tc), .second, .val (.long rc), .second, .val (.ref b12), .val (.ref b14), .val (.ref b16), .val (.int (own_b (own_aft ta r1 tb rb = true))), .val (.int (own_b (own_aft tb rb ta r1 = true))), .val (.int (own_b (own_aft tb rb tc rc = true))), .val (.int (own_b (own_aft ta r1 tc rc = true))), .val (.int (own_b (ta = tb ∧ r1 = rb))), .val (.int (((own_b (own_aft ta r1 tb rb = true)) + (own_b (own_aft tb rb ta r1 = true))) + (own_b (ta = tb ∧ r1 = rb))))] []))
        exact J10
      · refine own_go (XS.ifYes X21.here hx rfl (pc0 := 248) (pc' := 255) rfl (hb hby at_248) rfl (own_fgtJ hc248).2 (by decide) (by decide) (Steps.refl _)) ?_
        show own_Go p e below _ (T21.setTop (mkF m 255 #[.val (.long t1), .second, .val (.long r1), .second, .val (.long t2), .second, .val (.long r2), .second, .val (.long t3), .second, .val (.int md), .val (.long (4611686018427387903 : Int64)), .second, .val (.long ta), .second, .val (.long tb), .second, .val (.long rb), .second, .val (.long tc), .second, .val (.long rc), .second, .val (.ref b12), .val (.ref b14), .val (.ref b16), .val (.int (own_b (own_aft ta r1 tb rb = true))), .val (.int (own_b (own_aft tb rb ta r1 = true))), .val (.int (own_b (own_aft tb rb tc rc = true))), .val (.int (own_b (own_aft ta r1 tc rc = true))), .val (.int (own_b (ta = tb ∧ r1 = rb))), .val (.int (((own_b (own_aft ta r1 tb rb = true)) + (own_b (own_aft tb rb ta r1 = true))) + (own_b (ta = tb ∧ r1 = rb))))] [(.int (own_b (own_aft ta r1 tb rb = true)))]))
        refine own_go (XS.iconst X21.here hx rfl (hb hby at_255) (Steps.refl _)) ?_
        show own_Go p e below _ (T21.setTop (mkF m 256 #[.val (.long t1), .second, .val (.long r1), .second, .val (.long t2), .second, .val (.long r2), .second, .val (.long t3), .second, .val (.int md), .val (.long (4611686018427387903 : Int64)), .second, .val (.long ta), .second, .val (.long tb), .second, .val (.long rb), .second, .val (.long tc), .second, .val (.long rc), .second, .val (.ref b12), .val (.ref b14), .val (.ref b16), .val (.int (own_b (own_aft ta r1 tb rb = true))), .val (.int (own_b (own_aft tb rb ta r1 = true))), .val (.int (own_b (own_aft tb rb tc rc = true))), .val (.int (own_b (own_aft ta r1 tc rc = true))), .val (.int (own_b (ta = tb ∧ r1 = rb))), .val (.int (((own_b (own_aft ta r1 tb rb = true)) + (own_b (own_aft tb rb ta r1 = true))) + (own_b (ta = tb ∧ r1 = rb))))] [(.int (0 : Int32)), (.int (own_b (own_aft ta r1 tb rb = true)))]))
        refine own_go (XS.icmpYes X21.here hx rfl (pc0 := 256) (pc' := 261) rfl (hb hby at_256) rfl (teq (own_tie' _ _ hc239 hc248)).1 (by decide) (by decide) (Steps.refl _)) ?_
        show own_Go p e below _ (T21.setTop (mkF m 261 #[.val (.long t1), .second, .val (.long r1), .second, .val (.long t2), .second, .val (.long r2), .second, .val (.long t3), .second, .val (.int md), .val (.long (4611686018427387903 : Int64)), .second, .val (.long ta), .second, .val (.long tb), .second, .val (.long rb), .second, .val (.long tc), .second, .val (.long rc), .second, .val (.ref b12), .val (.ref b14), .val (.ref b16), .val (.int (own_b (own_aft ta r1 tb rb = true))), .val (.int (own_b (own_aft tb rb ta r1 = true))), .val (.int (own_b (own_aft tb rb tc rc = true))), .val (.int (own_b (own_aft ta r1 tc rc = true))), .val (.int (own_b (ta = tb ∧ r1 = rb))), .val (.int (((own_b (own_aft ta r1 tb rb = true)) + (own_b (own_aft tb rb ta r1 = true))) + (own_b (ta = tb ∧ r1 = rb))))] []))
        exact J10
    · refine own_go (XS.ifYes X21.here hx rfl (pc0 := 239) (pc' := 261) rfl (hb hby at_239) rfl (own_feqJ hc239).2 (by decide) (by decide) (Steps.refl _)) ?_
      show own_Go p e below _ (T21.setTop (mkF m 261 #[.val (.long t1), .second, .val (.long r1), .second, .val (.long t2), .second, .val (.long r2), .second, .val (.long t3), .second, .val (.int md), .val (.long (4611686018427387903 : Int64)), .second, .val (.long ta), .second, .val (.long tb), .second, .val (.long rb), .second, .val (.long tc), .second, .val (.long rc), .second, .val (.ref b12), .val (.ref b14), .val (.ref b16), .val (.int (own_b (own_aft ta r1 tb rb = true))), .val (.int (own_b (own_aft tb rb ta r1 = true))), .val (.int (own_b (own_aft tb rb tc rc = true))), .val (.int (own_b (own_aft ta r1 tc rc = true))), .val (.int (own_b (ta = tb ∧ r1 = rb))), .val (.int (((own_b (own_aft ta r1 tb rb = true)) + (own_b (own_aft tb rb ta r1 = true))) + (own_b (ta = tb ∧ r1 = rb))))] []))
      exact J10
  show own_Go p e below _ (T21.setTop (mkF m 261 #[.val (.long t1), .second, .val (.long r1), .second, .val (.long t2), .second, .val (.long r2), .second, .val (.long t3), .second, .val (.int md), .val (.long (4611686018427387903 : Int64)), .second, .val (.long ta), .second, .val (.long tb), .second, .val (.long rb), .second, .val (.long tc), .second, .val (.long rc), .second, .val (.ref b12), .val (.ref b14), .val (.ref b16), .val (.int (own_b (own_aft ta r1 tb rb = true))), .val (.int (own_b (own_aft tb rb ta r1 = true))), .val (.int (own_b (own_aft tb rb tc rc = true))), .val (.int (own_b (own_aft ta r1 tc rc = true))), .val (.int (own_b (ta = tb ∧ r1 = rb))), .val (.int (((own_b (own_aft ta r1 tb rb = true)) + (own_b (own_aft tb rb ta r1 = true))) + (own_b (ta = tb ∧ r1 = rb))))] []))
  refine own_go (XS.iload X21.here hx rfl (hb hby at_261) rfl (Steps.refl _)) ?_
  show own_Go p e below _ (T21.setTop (mkF m 263 #[.val (.long t1), .second, .val (.long r1), .second, .val (.long t2), .second, .val (.long r2), .second, .val (.long t3), .second, .val (.int md), .val (.long (4611686018427387903 : Int64)), .second, .val (.long ta), .second, .val (.long tb), .second, .val (.long rb), .second, .val (.long tc), .second, .val (.long rc), .second, .val (.ref b12), .val (.ref b14), .val (.ref b16), .val (.int (own_b (own_aft ta r1 tb rb = true))), .val (.int (own_b (own_aft tb rb ta r1 = true))), .val (.int (own_b (own_aft tb rb tc rc = true))), .val (.int (own_b (own_aft ta r1 tc rc = true))), .val (.int (own_b (ta = tb ∧ r1 = rb))), .val (.int (((own_b (own_aft ta r1 tb rb = true)) + (own_b (own_aft tb rb ta r1 = true))) + (own_b (ta = tb ∧ r1 = rb))))] [(.int (own_b (own_aft ta r1 tb rb = true)))]))
  by_cases hc263 : own_aft ta r1 tb rb = true
  · refine own_go (XS.ifNo X21.here hx rfl (hb hby at_263) rfl ((if0 _ _).trans (feq (own_b_nz hc263)).1) (Steps.refl _)) ?_
    show own_Go p e below _ (T21.setTop (mkF m 266 #[.val (.long t1), .second, .val (.long r1), .second, .val (.long t2), .second, .val (.long r2), .second, .val (.long t3), .second, .val (.int md), .val (.long (4611686018427387903 : Int64)), .second, .val (.long ta), .second, .val (.long tb), .second, .val (.long rb), .second, .val (.long tc), .second, .val (.long rc), .second, .val (.ref b12), .val (.ref b14), .val (.ref b16), .val (.int (own_b (own_aft ta r1 tb rb = true))), .val (.int (own_b (own_aft tb rb ta r1 = true))), .val (.int (own_b (own_aft tb rb tc rc = true))), .val (.int (own_b (own_aft ta r1 tc rc = true))), .val (.int (own_b (ta = tb ∧ r1 = rb))), .val (.int (((own_b (own_aft ta r1 tb rb = true)) + (own_b (own_aft tb rb ta r1 = true))) + (own_b (ta = tb ∧ r1 = rb))))] []))
    refine own_go (XS.iload X21.here hx rfl (hb hby at_266) rfl (Steps.refl _)) ?_
    show own_Go p e below _ (T21.setTop (mkF m 268 #[.val (.long t1), .second, .val (.long r1), .second, .val (.long t2), .second, .val (.long r2), .second, .val (.long t3), .second, .val (.int md), .val (.long (4611686018427387903 : Int64)), .second, .val (.long ta), .second, .val (.long tb), .second, .val (.long rb), .second, .val (.long tc), .second, .val (.long rc), .second, .val (.ref b12), .val (.ref b14), .val (.ref b16), .val (.int (own_b (own_aft ta r1 tb rb = true))), .val (.int (own_b (own_aft tb rb ta r1 = true))), .val (.int (own_b (own_aft tb rb tc rc = true))), .val (.int (own_b (own_aft ta r1 tc rc = true))), .val (.int (own_b (ta = tb ∧ r1 = rb))), .val (.int (((own_b (own_aft ta r1 tb rb = true)) + (own_b (own_aft tb rb ta r1 = true))) + (own_b (ta = tb ∧ r1 = rb))))] [(.int (own_b (own_aft tb rb tc rc = true)))]))
    by_cases hc268 : own_aft tb rb tc rc = true
    · refine own_go (XS.ifNo X21.here hx rfl (hb hby at_268) rfl ((if0 _ _).trans (feq (own_b_nz hc268)).1) (Steps.refl _)) ?_
      show own_Go p e below _ (T21.setTop (mkF m 271 #[.val (.long t1), .second, .val (.long r1), .second, .val (.long t2), .second, .val (.long r2), .second, .val (.long t3), .second, .val (.int md), .val (.long (4611686018427387903 : Int64)), .second, .val (.long ta), .second, .val (.long tb), .second, .val (.long rb), .second, .val (.long tc), .second, .val (.long rc), .second, .val (.ref b12), .val (.ref b14), .val (.ref b16), .val (.int (own_b (own_aft ta r1 tb rb = true))), .val (.int (own_b (own_aft tb rb ta r1 = true))), .val (.int (own_b (own_aft tb rb tc rc = true))), .val (.int (own_b (own_aft ta r1 tc rc = true))), .val (.int (own_b (ta = tb ∧ r1 = rb))), .val (.int (((own_b (own_aft ta r1 tb rb = true)) + (own_b (own_aft tb rb ta r1 = true))) + (own_b (ta = tb ∧ r1 = rb))))] []))
      refine own_go (XS.iload X21.here hx rfl (hb hby at_271) rfl (Steps.refl _)) ?_
      show own_Go p e below _ (T21.setTop (mkF m 273 #[.val (.long t1), .second, .val (.long r1), .second, .val (.long t2), .second, .val (.long r2), .second, .val (.long t3), .second, .val (.int md), .val (.long (4611686018427387903 : Int64)), .second, .val (.long ta), .second, .val (.long tb), .second, .val (.long rb), .second, .val (.long tc), .second, .val (.long rc), .second, .val (.ref b12), .val (.ref b14), .val (.ref b16), .val (.int (own_b (own_aft ta r1 tb rb = true))), .val (.int (own_b (own_aft tb rb ta r1 = true))), .val (.int (own_b (own_aft tb rb tc rc = true))), .val (.int (own_b (own_aft ta r1 tc rc = true))), .val (.int (own_b (ta = tb ∧ r1 = rb))), .val (.int (((own_b (own_aft ta r1 tb rb = true)) + (own_b (own_aft tb rb ta r1 = true))) + (own_b (ta = tb ∧ r1 = rb))))] [(.int (own_b (own_aft ta r1 tc rc = true)))]))
      refine own_go (XS.ifYes X21.here hx rfl (pc0 := 273) (pc' := 278) rfl (hb hby at_273) rfl ((if0 _ _).trans (feq (own_b_nz (own_trans hc263 hc268))).2) (by decide) (by decide) (Steps.refl _)) ?_
      show own_Go p e below _ (T21.setTop (mkF m 278 #[.val (.long t1), .second, .val (.long r1), .second, .val (.long t2), .second, .val (.long r2), .second, .val (.long t3), .second, .val (.int md), .val (.long (4611686018427387903 : Int64)), .second, .val (.long ta), .second, .val (.long tb), .second, .val (.long rb), .second, .val (.long tc), .second, .val (.long rc), .second, .val (.ref b12), .val (.ref b14), .val (.ref b16), .val (.int (own_b (own_aft ta r1 tb rb = true))), .val (.int (own_b (own_aft tb rb ta r1 = true))), .val (.int (own_b (own_aft tb rb tc rc = true))), .val (.int (own_b (own_aft ta r1 tc rc = true))), .val (.int (own_b (ta = tb ∧ r1 = rb))), .val (.int (((own_b (own_aft ta r1 tb rb = true)) + (own_b (own_aft tb rb ta r1 = true))) + (own_b (ta = tb ∧ r1 = rb))))] []))
      refine own_go (XS.iconst X21.here hx rfl (hb hby at_278) (Steps.refl _)) ?_
      show own_Go p e below _ (T21.setTop (mkF m 279 #[.val (.long t1), .second, .val (.long r1), .second, .val (.long t2), .second, .val (.long r2), .second, .val (.long t3), .second, .val (.int md), .val (.long (4611686018427387903 : Int64)), .second, .val (.long ta), .second, .val (.long tb), .second, .val (.long rb), .second, .val (.long tc), .second, .val (.long rc), .second, .val (.ref b12), .val (.ref b14), .val (.ref b16), .val (.int (own_b (own_aft ta r1 tb rb = true))), .val (.int (own_b (own_aft tb rb ta r1 = true))), .val (.int (own_b (own_aft tb rb tc rc = true))), .val (.int (own_b (own_aft ta r1 tc rc = true))), .val (.int (own_b (ta = tb ∧ r1 = rb))), .val (.int (((own_b (own_aft ta r1 tb rb = true)) + (own_b (own_aft tb rb ta r1 = true))) + (own_b (ta = tb ∧ r1 = rb))))] [(.int (1 : Int32))]))
      exact own_retZ X21 hx hlk e21 Bd.returns (hb hby at_279) (Or.inr rfl) ⟨rfl, N17⟩ (by decide) (by decide)
    · refine own_go (XS.ifYes X21.here hx rfl (pc0 := 268) (pc' := 278) rfl (hb hby at_268) rfl ((if0 _ _).trans (teq (own_b_f hc268)).1) (by decide) (by decide) (Steps.refl _)) ?_
      show own_Go p e below _ (T21.setTop (mkF m 278 #[.val (.long t1), .second, .val (.long r1), .second, .val (.long t2), .second, .val (.long r2), .second, .val (.long t3), .second, .val (.int md), .val (.long (4611686018427387903 : Int64)), .second, .val (.long ta), .second, .val (.long tb), .second, .val (.long rb), .second, .val (.long tc), .second, .val (.long rc), .second, .val (.ref b12), .val (.ref b14), .val (.ref b16), .val (.int (own_b (own_aft ta r1 tb rb = true))), .val (.int (own_b (own_aft tb rb ta r1 = true))), .val (.int (own_b (own_aft tb rb tc rc = true))), .val (.int (own_b (own_aft ta r1 tc rc = true))), .val (.int (own_b (ta = tb ∧ r1 = rb))), .val (.int (((own_b (own_aft ta r1 tb rb = true)) + (own_b (own_aft tb rb ta r1 = true))) + (own_b (ta = tb ∧ r1 = rb))))] []))
      refine own_go (XS.iconst X21.here hx rfl (hb hby at_278) (Steps.refl _)) ?_
      show own_Go p e below _ (T21.setTop (mkF m 279 #[.val (.long t1), .second, .val (.long r1), .second, .val (.long t2), .second, .val (.long r2), .second, .val (.long t3), .second, .val (.int md), .val (.long (4611686018427387903 : Int64)), .second, .val (.long ta), .second, .val (.long tb), .second, .val (.long rb), .second, .val (.long tc), .second, .val (.long rc), .second, .val (.ref b12), .val (.ref b14), .val (.ref b16), .val (.int (own_b (own_aft ta r1 tb rb = true))), .val (.int (own_b (own_aft tb rb ta r1 = true))), .val (.int (own_b (own_aft tb rb tc rc = true))), .val (.int (own_b (own_aft ta r1 tc rc = true))), .val (.int (own_b (ta = tb ∧ r1 = rb))), .val (.int (((own_b (own_aft ta r1 tb rb = true)) + (own_b (own_aft tb rb ta r1 = true))) + (own_b (ta = tb ∧ r1 = rb))))] [(.int (1 : Int32))]))
      exact own_retZ X21 hx hlk e21 Bd.returns (hb hby at_279) (Or.inr rfl) ⟨rfl, N17⟩ (by decide) (by decide)
  · refine own_go (XS.ifYes X21.here hx rfl (pc0 := 263) (pc' := 278) rfl (hb hby at_263) rfl ((if0 _ _).trans (teq (own_b_f hc263)).1) (by decide) (by decide) (Steps.refl _)) ?_
    show own_Go p e below _ (T21.setTop (mkF m 278 #[.val (.long t1), .second, .val (.long r1), .second, .val (.long t2), .second, .val (.long r2), .second, .val (.long t3), .second, .val (.int md), .val (.long (4611686018427387903 : Int64)), .second, .val (.long ta), .second, .val (.long tb), .second, .val (.long rb), .second, .val (.long tc), .second, .val (.long rc), .second, .val (.ref b12), .val (.ref b14), .val (.ref b16), .val (.int (own_b (own_aft ta r1 tb rb = true))), .val (.int (own_b (own_aft tb rb ta r1 = true))), .val (.int (own_b (own_aft tb rb tc rc = true))), .val (.int (own_b (own_aft ta r1 tc rc = true))), .val (.int (own_b (ta = tb ∧ r1 = rb))), .val (.int (((own_b (own_aft ta r1 tb rb = true)) + (own_b (own_aft tb rb ta r1 = true))) + (own_b (ta = tb ∧ r1 = rb))))] []))
    refine own_go (XS.iconst X21.here hx rfl (hb hby at_278) (Steps.refl _)) ?_
    show own_Go p e below _ (T21.setTop (mkF m 279 #[.val (.long t1), .second, .val (.long r1), .second, .val (.long t2), .second, .val (.long r2), .second, .val (.long t3), .second, .val (.int md), .val (.long (4611686018427387903 : Int64)), .second, .val (.long ta), .second, .val (.long tb), .second, .val (.long rb), .second, .val (.long tc), .second, .val (.long rc), .second, .val (.ref b12), .val (.ref b14), .val (.ref b16), .val (.int (own_b (own_aft ta r1 tb rb = true))), .val (.int (own_b (own_aft tb rb ta r1 = true))), .val (.int (own_b (own_aft tb rb tc rc = true))), .val (.int (own_b (own_aft ta r1 tc rc = true))), .val (.int (own_b (ta = tb ∧ r1 = rb))), .val (.int (((own_b (own_aft ta r1 tb rb = true)) + (own_b (own_aft tb rb ta r1 = true))) + (own_b (ta = tb ∧ r1 = rb))))] [(.int (1 : Int32))]))
    exact own_retZ X21 hx hlk e21 Bd.returns (hb hby at_279) (Or.inr rfl) ⟨rfl, N17⟩ (by decide) (by decide)
set_option maxRecDepth 65536 in
set_option maxHeartbeats 40000000 in
theorem comes_1 {Post : Tables → Env → Array Value → State → Outcome → State → Prop} (hpost : ∀ tb e args s v u, (limb_1_1.after args s (.returned v) u = true ∧ limb_1_2.after args s (.returned v) u = true ∧ True) → FrameEnd s (.returned v) u (Jvm.fieldLocs frame_1_writes args s ++ Jvm.arrayLocs frame_1_arrays args s ++ Jvm.staticLocs frame_1_statics s) 16 128 → Post tb e args s (.returned v) u) :
    ArmFor flags0 classFile x code maxLocals ret World_1 tables_1 room_1 Calls_1 rest_1 Pre_1 Post := by
  intro l hfl _ _ p e ha hc hk s m args below hf hA hF happ hP
  obtain ⟨hcalls, hrest, hpre⟩ := hP
  obtain ⟨-, -, -, hnamed, -, -, -, hat⟩ := (Spec.applies_iff hf).mp happ
  obtain ⟨hg, hn⟩ := and_e (Cond.before_iff.mp (show (Jvm.Cond.and given_1 narrow_1).before args s = true from hpre))
  obtain ⟨gc, ga0⟩ := and_e hg
  obtain ⟨w0, w1, w2, w3, w4, w5, rfl⟩ : ∃ w0 w1 w2 w3 w4 w5 : Value, args = #[w0, w1, w2, w3, w4, w5] := by
    have hs : args.size = 6 := by simpa [Cond.value, given_1] using gc
    obtain ⟨L⟩ := args
    match L, hs with
    | [w0, w1, w2, w3, w4, w5], _ => exact ⟨w0, w1, w2, w3, w4, w5, rfl⟩
  have hw := fun d (hd : d ∈ tables_1) => atoms_spec (ws := Jvm.Cond.code x code maxLocals ret :: tables_1) hat d (List.mem_cons_of_mem _ hd)
  obtain ⟨gb0, ga1⟩ := and_e ga0
  obtain ⟨i0, ei0⟩ := isL_v gb0
  obtain rfl : w0 = (.long i0) := Option.some.inj ei0
  obtain ⟨gb1, ga2⟩ := and_e ga1
  obtain ⟨i1, ei1⟩ := isL_v gb1
  obtain rfl : w1 = (.long i1) := Option.some.inj ei1
  obtain ⟨gb2, ga3⟩ := and_e ga2
  obtain ⟨i2, ei2⟩ := isL_v gb2
  obtain rfl : w2 = (.long i2) := Option.some.inj ei2
  obtain ⟨gb3, ga4⟩ := and_e ga3
  obtain ⟨i3, ei3⟩ := isL_v gb3
  obtain rfl : w3 = (.long i3) := Option.some.inj ei3
  obtain ⟨gb4, ga5⟩ := and_e ga4
  obtain ⟨i4, ei4⟩ := isL_v gb4
  obtain rfl : w4 = (.long i4) := Option.some.inj ei4
  obtain ⟨i5, ei5⟩ := is_v ga5
  obtain rfl : w5 = (.int i5) := Option.some.inj ei5
  obtain ⟨n, o, h1, h2, h3, _, L, rfl, ⟨rfl, N⟩, hq⟩ := rm_law l s _ hw i0 i1 i2 i3 i4 i5 s.heap s.heap.size (Nat.le_refl _) p e ha hc hk s m _ below hf ((Spec.applies_iff_loose hf).mp happ).1 ⟨rfl, State.Warmed39.refl s, rfl⟩ trivial
  exact ⟨n, _, h1, h2, h3, hpost _ _ _ _ _ _ ⟨Cond.after_iff.mpr rfl, Cond.after_iff.mpr (eq_i res_at (Term.int_eval (1)) rfl), trivial⟩ ⟨hq.1, hq.2.1, (hq.2.2.sift fun y hy => Or.inr (N y hy)).mono (by decide) (by decide)⟩⟩
theorem main_1_1 : Claimed_1_1 := comes_1 fun _ _ _ _ _ _ h hF => ⟨h.1, hF⟩
theorem main_1_2 : Claimed_1_2 := comes_1 fun _ _ _ _ _ _ h hF => ⟨h.2.1, hF⟩
end Jvm.Pilot.@@N@@
namespace Jvm.Pilot.@@N@@
open Jvm Jvm.ClassFile Sem Op Lib Jvm.Free Jvm.Stand Jvm.Pilot.@@N@@.Jvm.D
/-! MADE BY PROGRAM (witnessworld.py) out of the Statement's table words and the real class files: 10 classes; the members and pool entries that the words name. The judged class is class 1, her method 1. -/
namespace start1
open Jvm.ClassFile
def u (s : String) : CpInfo := .utf8 (stringToUtf16 s)
/-- a pool by its gaps: so many unusable entries, then the entry; so many at the end -/
def gap : Nat → List CpInfo → List CpInfo
  | 0, r => r
  | n + 1, r => .unusable :: gap n r
def poolList (es : List (Nat × CpInfo)) (last : Nat) : List CpInfo := es.foldr (fun e r => gap e.1 (e.2 :: r)) (gap last [])
def pool (es : List (Nat × CpInfo)) (last : Nat) : Array CpInfo := ⟨poolList es last⟩
def fileOf (pool : Array CpInfo) (this : Nat) (attrs : Array Attribute := #[]) (ms : Array MethodInfo := #[]) (fl : Nat := 33) (sup : Nat := 0) (ifs : Array Nat := #[]) (fds : Array FieldInfo := #[]) : ClassFile where
  minorVersion := 0
  majorVersion := 65
  constantPool := pool
  accessFlags := fl
  thisClass := this
  superClass := sup
  interfaces := ifs
  fields := fds
  methods := ms
  attributes := attrs
def plain (name : String) (sup : Option ClassId) : Class where
  name := name
  kind := .ordinary
  loader := none
  accessFlags := 33
  super := sup
  interfaces := #[]
  cf := none
  fields := #[]
  methods := #[]
  instanceTypes := #[]
  staticTypes := #[]
  resolved := #[]
  callSites := []
  init := .initialized
  statics := none
  mirror := none

def pool0 : Array CpInfo := pool [(5, u "<init>"), (0, u "()V"), (1, .class_ 10), (1, u "java/lang/Object")] 113

def k0c0 : Code := { maxStack := 0, maxLocals := 1, code := object_method_1_code, exceptionTable := #[], attributes := #[] }
def k0m0 : Method := { name := "<init>", desc := "()V", sig := { parameters := [], returnType := none }, accessFlags := 1, code := some k0c0 }
/-- java/lang/Object -/
def k0 : Class := { plain "java/lang/Object" none with
  accessFlags := 33
  interfaces := #[]
  cf := some (fileOf pool0 8 #[] #[{ accessFlags := 1, nameIndex := 5, descriptorIndex := 6, attributes := #[] }] 33 0 #[] #[])
  fields := #[]
  methods := #[k0m0]
  instanceTypes := #[]
  staticTypes := #[]
  resolved := Array.replicate 124 none
  statics := none }

def pool1 : Array CpInfo := pool [(2, .class_ 4), (1, u "java/lang/Object"), (0, u "<init>"), (0, u "()V"), (0, .class_ 8), (0, u "com/example/orderbound/orderbound/store/Stamp"), (0, .long 4611686018427387903), (1, .methodref 7 12), (0, .nameAndType 5 13), (0, u "(JJ)V"), (0, .methodref 7 15), (0, .nameAndType 16 17), (0, u "isAfter"), (0, u "(Lcom/example/orderbound/orderbound/store/Stamp;)Z"), (0, .class_ 19), (0, u "com/example/orderbound/orderbound/store/StampIsAfterPinLaw"), (2, u "law"), (0, u "(JJJJJI)Z")] 3

def k1m0 : Method := { name := "<init>", desc := "()V", sig := { parameters := [], returnType := none }, accessFlags := 1, code := none }
def k1c1 : Code := { maxStack := 6, maxLocals := 32, code := code, exceptionTable := #[], attributes := #[] }
def k1m1 : Method := { name := "law", desc := "(JJJJJI)Z", sig := { parameters := [.long, .long, .long, .long, .long, .int], returnType := some .boolean }, accessFlags := 9, code := some k1c1 }
/-- com/example/orderbound/orderbound/store/StampIsAfterPinLaw -/
def k1 : Class := { plain "com/example/orderbound/orderbound/store/StampIsAfterPinLaw" (some 0) with
  accessFlags := 49
  interfaces := #[]
  cf := some (fileOf pool1 18 #[] #[{ accessFlags := 1, nameIndex := 5, descriptorIndex := 6, attributes := #[] }, { accessFlags := 9, nameIndex := 22, descriptorIndex := 23, attributes := #[] }] 49 2 #[] #[])
  fields := #[]
  methods := #[k1m0, k1m1]
  instanceTypes := #[]
  staticTypes := #[]
  resolved := Array.replicate 27 none
  statics := none }

def pool2 : Array CpInfo := pool [(1, .methodref 2 3), (0, .class_ 4), (0, .nameAndType 5 6), (0, u "java/lang/Object"), (0, u "<init>"), (0, u "()V"), (0, .class_ 8), (0, u "java/lang/Record")] 13

def k2c0 : Code := { maxStack := 1, maxLocals := 1, code := jdk_30_method_1_code, exceptionTable := #[], attributes := #[] }
def k2m0 : Method := { name := "<init>", desc := "()V", sig := { parameters := [], returnType := none }, accessFlags := 4, code := some k2c0 }
/-- java/lang/Record -/
def k2 : Class := { plain "java/lang/Record" (some 0) with
  accessFlags := 1057
  interfaces := #[]
  cf := some (fileOf pool2 7 #[] #[{ accessFlags := 4, nameIndex := 5, descriptorIndex := 6, attributes := #[] }] 1057 2 #[] #[])
  fields := #[]
  methods := #[k2m0]
  instanceTypes := #[]
  staticTypes := #[]
  resolved := Array.replicate 22 none
  statics := none }

def pool3 : Array CpInfo := pool [(3, .methodref 4 5), (0, .class_ 6), (0, .nameAndType 7 8), (0, u "java/lang/Record"), (0, u "<init>"), (0, u "()V"), (0, .methodref 10 11), (0, .class_ 12), (0, .nameAndType 13 14), (0, u "com/example/orderbound/orderbound/store/Stamp"), (0, u "carries"), (0, u "(J)Z"), (9, .fieldref 10 25), (0, .nameAndType 26 27), (0, u "time"), (0, u "J"), (0, .fieldref 10 29), (0, .nameAndType 30 27), (0, u "replica"), (0, .long 4611686018427387903), (13, u "MAX_TIME"), (1, u "(JJ)V"), (4, u "isAfter"), (0, u "(Lcom/example/orderbound/orderbound/store/Stamp;)Z")] 33

def k3c0 : Code := { maxStack := 4, maxLocals := 5, code := prog_120_method_1_code, exceptionTable := #[], attributes := #[] }
def k3m0 : Method := { name := "<init>", desc := "(JJ)V", sig := { parameters := [.long, .long], returnType := none }, accessFlags := 0, code := some k3c0 }
def k3c1 : Code := { maxStack := 4, maxLocals := 2, code := prog_120_method_2_code, exceptionTable := #[], attributes := #[] }
def k3m1 : Method := { name := "carries", desc := "(J)Z", sig := { parameters := [.long], returnType := some .boolean }, accessFlags := 8, code := some k3c1 }
def k3c2 : Code := { maxStack := 4, maxLocals := 2, code := prog_120_method_3_code, exceptionTable := #[], attributes := #[] }
def k3m2 : Method := { name := "isAfter", desc := "(Lcom/example/orderbound/orderbound/store/Stamp;)Z", sig := { parameters := [(.object "com/example/orderbound/orderbound/store/Stamp")], returnType := some .boolean }, accessFlags := 0, code := some k3c2 }
/-- com/example/orderbound/orderbound/store/Stamp -/
def k3 : Class := { plain "com/example/orderbound/orderbound/store/Stamp" (some 2) with
  accessFlags := 48
  interfaces := #[]
  cf := some (fileOf pool3 10 #[] #[{ accessFlags := 0, nameIndex := 7, descriptorIndex := 47, attributes := #[] }, { accessFlags := 8, nameIndex := 13, descriptorIndex := 14, attributes := #[] }, { accessFlags := 0, nameIndex := 52, descriptorIndex := 53, attributes := #[] }] 48 4 #[] #[{ accessFlags := 18, nameIndex := 26, descriptorIndex := 27, attributes := #[] }, { accessFlags := 18, nameIndex := 30, descriptorIndex := 27, attributes := #[] }, { accessFlags := 24, nameIndex := 45, descriptorIndex := 27, attributes := #[] }])
  fields := #[{ name := "time", type := .long, accessFlags := 18, slot := 0, constantValue := 0 }, { name := "replica", type := .long, accessFlags := 18, slot := 1, constantValue := 0 }, { name := "MAX_TIME", type := .long, accessFlags := 24, slot := 0, constantValue := 0 }]
  methods := #[k3m0, k3m1, k3m2]
  instanceTypes := #[.long, .long]
  staticTypes := #[.long]
  resolved := Array.replicate 87 none
  statics := none }

def pool4 : Array CpInfo := pool [(1, u "java/lang/Cloneable"), (0, .class_ 1), (0, u "java/lang/Object"), (0, .class_ 3)] 3

/-- java/lang/Cloneable -/
def k4 : Class := { plain "java/lang/Cloneable" (some 0) with
  accessFlags := 1537
  interfaces := #[]
  cf := some (fileOf pool4 2 #[] #[] 1537 4 #[] #[])
  fields := #[]
  methods := #[]
  instanceTypes := #[]
  staticTypes := #[]
  resolved := Array.replicate 8 none
  statics := none }

def pool5 : Array CpInfo := pool [(1, u "java/io/Serializable"), (0, .class_ 1), (0, u "java/lang/Object"), (0, .class_ 3)] 3

/-- java/io/Serializable -/
def k5 : Class := { plain "java/io/Serializable" (some 0) with
  accessFlags := 1537
  interfaces := #[]
  cf := some (fileOf pool5 2 #[] #[] 1537 4 #[] #[])
  fields := #[]
  methods := #[]
  instanceTypes := #[]
  staticTypes := #[]
  resolved := Array.replicate 8 none
  statics := none }

/-- the primitive byte -/
def k6 : Class := { plain "byte" none with kind := .primitive 'B', accessFlags := 0x411 }
/-- [B -/
def k7 : Class := { plain "[B" (some 0) with kind := .array 6 .byte, interfaces := #[4, 5], accessFlags := 1041 }

/-- the primitive int -/
def k8 : Class := { plain "int" none with kind := .primitive 'I', accessFlags := 0x411 }
/-- [I -/
def k9 : Class := { plain "[I" (some 0) with kind := .array 8 .int, interfaces := #[4, 5], accessFlags := 1041 }

def heap : Heap := #[]
def classes : Array Class := #[k0, k1, k2, k3, k4, k5, k6, k7, k8, k9]
def interned : List (Array UInt16 × Addr) := []
def slotsUsed : Nat := 0
def theMethod : MethodId := ⟨1, 1⟩
def args0 : Array Value := #[.long 5, .long 8, .long 1, .long 7, .long 5, .int 9]
def aboutOver (below : List Frame) : State where
  vm := { classes := classes, interned := interned.toArray }
  heap := heap
  slotsUsed := slotsUsed
  threads := #[{ frames := .invoking theMethod args0 :: below }]
def below0 : List Frame := [.native { method := ⟨0, 0⟩, args := #[] }]
def about1 : State := aboutOver below0
def p0 : Program := .bare "" "" ""
def e0 : Env := launch0.env 0 0 0
theorem w_frames : about1.frames = Frame.invoking theMethod args0 :: below0 := rfl
set_option maxRecDepth 65536 in
theorem w_args : argsFit about1.vm theMethod args0 = true := by decide +kernel
set_option maxRecDepth 65536 in
theorem w_heap : heapFits about1 = true := by decide +kernel
set_option maxRecDepth 65536 in
theorem w_runnable : about1.curStatus? = some .runnable := by decide +kernel
set_option maxRecDepth 65536 in
theorem w_alone : about1.alone = true := by decide +kernel
set_option maxRecDepth 65536 in
theorem w_named : about1.methodNamed? x = some theMethod := by decide +kernel
set_option maxRecDepth 65536 in
theorem w_hears : about1.hears theMethod below0 = true := by decide +kernel
set_option maxRecDepth 65536 in
theorem w_ripe : about1.ripe theMethod args0 below0 = true := by decide +kernel
theorem w_running : about1.status = .running := rfl
set_option maxRecDepth 65536 in
theorem w_room : about1.hasRoom e0.platform room_1 = true :=
  launch0.hasRoom_least _ room_1 (by decide +kernel) (by decide +kernel) (by decide +kernel) (by decide +kernel) (by decide +kernel) (by decide +kernel)
theorem allAtoms_all (ts : List Jvm.Cond) (a : Array Jvm.Value) (st : Jvm.State) : (allAtoms ts).before a st = ts.all (fun c => c.before a st) := by
  induction ts with
  | nil => rfl
  | cons c t ih =>
    show (Jvm.Cond.and c (allAtoms t)).before a st = _
    rw [Jvm.Cond.before_and, ih, List.all_cons]
def words1 : List Jvm.Cond := Jvm.Cond.code x code maxLocals ret :: tables_1
/-- a 'code' word, met by the world's own term for the bytes: nothing is compared byte by byte -/
theorem code_word {y : MethodName} {bytes : ByteArray} {mx : Nat} {rt : Option FieldType} {a : Array Value} {s : State} {m : MethodId} {meth : Method} {c : Code} (h1 : s.methodNamed? y = some m) (h2 : s.vm.method? m = some meth) (h3 : meth.code = some c) (h4 : c.code = bytes)
    (h5 : (c.maxLocals == mx && c.exceptionTable.isEmpty && decide (c.maxStack ≤ mostOperands) && decide (meth.sig.returnType = rt) && !meth.locks && decide (parseMethodDescriptor y.desc = some meth.sig)) = true) : (Jvm.Cond.code y bytes mx rt).before a s = true := by
  simp only [Bool.and_eq_true, beq_iff_eq, Bool.not_eq_true', decide_eq_true_eq] at h5
  obtain ⟨⟨⟨⟨⟨g1, g2⟩, g3⟩, g4⟩, g5⟩, g6⟩ := h5
  simp [Cond.before, Cond.holds, Cond.value, h1, h2, h3, h4, g1, g2, g3, g4, g5, g6]
def isCode : Jvm.Cond → Bool
  | .code _ _ _ _ => true
  | _ => false
theorem all_split {L : List Jvm.Cond} {P : Jvm.Cond → Bool} (h1 : L.all (fun c => isCode c || P c) = true) (h2 : ∀ c ∈ L.filter isCode, P c = true) : L.all P = true := by
  refine List.all_eq_true.mpr fun c hc => ?_
  have h := List.all_eq_true.mp h1 c hc
  rcases Bool.eq_false_or_eq_true (isCode c) with hi | hi
  · exact h2 c (List.mem_filter.mpr ⟨hc, hi⟩)
  · simpa [hi] using h
set_option maxRecDepth 65536 in
theorem w_c0 : (Jvm.Cond.code x code maxLocals ret).before args0 about1 = true := code_word (m := ⟨1, 1⟩) (meth := k1m1) (c := k1c1) (by decide +kernel) rfl rfl rfl (by decide +kernel)
set_option maxRecDepth 65536 in
theorem w_c1 : (Jvm.Cond.code ({ cls := "com/example/orderbound/orderbound/store/Stamp", name := "<init>", desc := "(JJ)V" } : Jvm.MethodName) prog_120_method_1_code (5 : Nat) (Option.none : Option Jvm.ClassFile.FieldType)).before args0 about1 = true := code_word (m := ⟨3, 0⟩) (meth := k3m0) (c := k3c0) (by decide +kernel) rfl rfl rfl (by decide +kernel)
set_option maxRecDepth 65536 in
theorem w_c2 : (Jvm.Cond.code ({ cls := "java/lang/Record", name := "<init>", desc := "()V" } : Jvm.MethodName) jdk_30_method_1_code (1 : Nat) (Option.none : Option Jvm.ClassFile.FieldType)).before args0 about1 = true := code_word (m := ⟨2, 0⟩) (meth := k2m0) (c := k2c0) (by decide +kernel) rfl rfl rfl (by decide +kernel)
set_option maxRecDepth 65536 in
theorem w_c3 : (Jvm.Cond.code ({ cls := "java/lang/Object", name := "<init>", desc := "()V" } : Jvm.MethodName) object_method_1_code (1 : Nat) (Option.none : Option Jvm.ClassFile.FieldType)).before args0 about1 = true := code_word (m := ⟨0, 0⟩) (meth := k0m0) (c := k0c0) (by decide +kernel) rfl rfl rfl (by decide +kernel)
set_option maxRecDepth 65536 in
theorem w_c4 : (Jvm.Cond.code ({ cls := "com/example/orderbound/orderbound/store/Stamp", name := "carries", desc := "(J)Z" } : Jvm.MethodName) prog_120_method_2_code (2 : Nat) (Option.some Jvm.ClassFile.FieldType.boolean)).before args0 about1 = true := code_word (m := ⟨3, 1⟩) (meth := k3m1) (c := k3c1) (by decide +kernel) rfl rfl rfl (by decide +kernel)
set_option maxRecDepth 65536 in
theorem w_c5 : (Jvm.Cond.code ({ cls := "com/example/orderbound/orderbound/store/Stamp", name := "isAfter", desc := "(Lcom/example/orderbound/orderbound/store/Stamp;)Z" } : Jvm.MethodName) prog_120_method_3_code (2 : Nat) (Option.some Jvm.ClassFile.FieldType.boolean)).before args0 about1 = true := code_word (m := ⟨3, 2⟩) (meth := k3m2) (c := k3c2) (by decide +kernel) rfl rfl rfl (by decide +kernel)
def codes1 : List Jvm.Cond := [Jvm.Cond.code x code maxLocals ret, Jvm.Cond.code ({ cls := "com/example/orderbound/orderbound/store/Stamp", name := "<init>", desc := "(JJ)V" } : Jvm.MethodName) prog_120_method_1_code (5 : Nat) (Option.none : Option Jvm.ClassFile.FieldType), Jvm.Cond.code ({ cls := "java/lang/Record", name := "<init>", desc := "()V" } : Jvm.MethodName) jdk_30_method_1_code (1 : Nat) (Option.none : Option Jvm.ClassFile.FieldType), Jvm.Cond.code ({ cls := "java/lang/Object", name := "<init>", desc := "()V" } : Jvm.MethodName) object_method_1_code (1 : Nat) (Option.none : Option Jvm.ClassFile.FieldType), Jvm.Cond.code ({ cls := "com/example/orderbound/orderbound/store/Stamp", name := "carries", desc := "(J)Z" } : Jvm.MethodName) prog_120_method_2_code (2 : Nat) (Option.some Jvm.ClassFile.FieldType.boolean), Jvm.Cond.code ({ cls := "com/example/orderbound/orderbound/store/Stamp", name := "isAfter", desc := "(Lcom/example/orderbound/orderbound/store/Stamp;)Z" } : Jvm.MethodName) prog_120_method_3_code (2 : Nat) (Option.some Jvm.ClassFile.FieldType.boolean)]
set_option maxRecDepth 65536 in
theorem codes_eq : words1.filter isCode = codes1 := rfl
theorem w_codes : ∀ c ∈ words1.filter isCode, c.before args0 about1 = true := by
  rw [codes_eq]
  intro c hc
  simp only [codes1, List.mem_cons, List.not_mem_nil, or_false] at hc
  rcases hc with rfl | rfl | rfl | rfl | rfl | rfl
  · exact w_c0
  · exact w_c1
  · exact w_c2
  · exact w_c3
  · exact w_c4
  · exact w_c5
set_option maxRecDepth 65536 in
theorem w_t1 : (words1.take 24).all (fun c => isCode c || c.before args0 about1) = true := by decide +kernel
set_option maxRecDepth 65536 in
theorem w_t2 : (words1.drop 24).all (fun c => isCode c || c.before args0 about1) = true := by decide +kernel
theorem w_tables : (allAtoms (Jvm.Cond.code x code maxLocals ret :: tables_1)).before args0 about1 = true := by
  rw [allAtoms_all]
  show words1.all (fun c => c.before args0 about1) = true
  refine all_split ?_ w_codes
  rw [← List.take_append_drop 24 words1, List.all_append, w_t1, w_t2]
  rfl
set_option maxRecDepth 65536 in
theorem w_case : (Jvm.Cond.and given_1 narrow_1).before args0 about1 = true := by decide +kernel
theorem w_applies : (headSpec (Jvm.Cond.code x code maxLocals ret :: tables_1) room_1).applies x e0.platform about1 = true :=
  (Spec.applies_iff w_frames).mpr ⟨w_running, w_runnable, w_alone, w_named, w_hears, w_ripe, w_room, w_tables⟩
theorem atStart : AtStart classFile x code maxLocals ret World_1 tables_1 room_1 Calls_1 rest_1 Pre_1 launch0 p0 e0 about1 theMethod args0 below0 :=
  ⟨lists_1, trivial, launch0.admits_env _ _ _, launch0.least_env, fairChoices_fair.cas, fairChoices_fair.clock, w_frames, w_args, w_heap, w_applies, trivial, trivial, w_case⟩
end start1
theorem witness_1 : WitnessClaimed_1 := ⟨start1.p0, start1.e0, start1.about1, start1.theMethod, start1.args0, start1.below0, start1.atStart⟩
end Jvm.Pilot.@@N@@
