import JvmDerived
import JvmDerived.Pilot.@@N@@Statement
import JvmDerived.Pilot.@@N@@Code
set_option linter.unusedVariables false
set_option linter.unusedSimpArgs false
@@BLOCK:NumsL.lean.txt@@
namespace Jvm.Pilot.@@N@@
open Jvm Jvm.ClassFile Sem Op Lib Jvm.Free Jvm.Stand Jvm.LawKit Jvm.RoadKit Bundle Jvm.Pilot.@@N@@.Jvm.D
def own_Go (p : Program) (e : Env) (below : List Frame) (G : Outcome → State → Prop) (t : State) : Prop :=
  ∃ s₂ o, Steps p.tables e below t s₂ ∧ s₂.status = .running ∧ Ended s₂ below o ∧ G o s₂
def own_G (s : State) (Q : Option Value → Heap → List Loc → Prop) (C S : Nat) (o : Outcome) (U : State) : Prop :=
  ∃ v L, o = .returned v ∧ Q v U.heap L ∧ FrameEnd s o U L C S
def own_Met (l : Launch) (Z : State) (y : MethodName) (bytes : ByteArray) (maxL : Nat) (rt : Option FieldType) (rm : Room) (as : Array Value) (h : Heap) (Q : Option Value → Heap → List Loc → Prop) : Prop :=
  MetFree l y (head1 [Jvm.Cond.code y bytes maxL rt] rm) (fun a U => a = as ∧ Z.Warmed39 U.vm ∧ U.heap = h) (fun _ _ _ _ _ => True) (fun _ U o U' => ∃ v L, o = .returned v ∧ Q v U'.heap L ∧ FrameEnd U o U' L rm.cells rm.slots)
def own_MetL (l : Launch) (Z : State) (as : Array Value) (h : Heap) (Q : Option Value → Heap → List Loc → Prop) : Prop :=
  MetFree l x (head1 (Jvm.Cond.code x code maxLocals ret :: tables_1) room_1) (fun a U => a = as ∧ Z.Warmed39 U.vm ∧ U.heap = h) (fun _ _ _ _ _ => True) (fun _ U o U' => ∃ v L, o = .returned v ∧ Q v U'.heap L ∧ FrameEnd U o U' L room_1.cells room_1.slots)
theorem own_pays {l : Launch} {Z : State} {p : Program} {e : Env} {R : Room} {s : State} {args : Array Value} {below : List Frame} {a0 : Array Value} {h : Heap} {y : MethodName} {bytes : ByteArray} {maxL : Nat} {rt : Option FieldType} {rm : Room} {len W : Nat} {as' : Array Value} {Q : Option Value → Heap → List Loc → Prop}
    (hM : own_Met l Z y bytes maxL rt rm as' h Q) (hZ : Z.Warmed39 s.vm) (wc : (Jvm.Cond.code y bytes maxL rt).before a0 Z = true) (wz : (Jvm.Cond.initialized y.cls).before a0 Z = true) (hf : rm.frames + 1 ≤ R.frames) (hl : W + (maxL + 11) + rm.locals ≤ R.locals) :
    Back l R p e below s args y len W (fun A a => a = as' ∧ A.U.heap = h ∧ A.cells + rm.cells ≤ R.cells ∧ A.slots + rm.slots ≤ R.slots)
      (fun A _ v B => ∃ L, Q v B.U.heap L ∧ B.locs = A.locs ++ L ∧ B.cells = A.cells + rm.cells ∧ B.slots = A.slots + rm.slots) :=
  backOf hM hZ wc wz hf hl
section OwnSteps
variable {p : Program} {l : Launch} {e : Env} {R : Room} {s : State} {m : MethodId} {args : Array Value} {below : List Frame} {meth : Method} {c : Code} {T : State} {locs : List Loc} {cells slots : Nat} {h : Heap} {G : Outcome → State → Prop} {t t' : State} {Q : Option Value → Heap → List Loc → Prop} {C S pc : Nat} {Ls : Array Slot} {rest : List Value}
theorem own_go (k : Steps p.tables e below t t') (r : own_Go p e below G t') : own_Go p e below G t := by
  obtain ⟨s₂, o, h1, h2⟩ := r
  exact ⟨s₂, o, k.trans h1, h2⟩
theorem own_ret (X : Stand p l e R s m args below meth c T locs cells slots) (hx : p.tables.exec = Jvm.exec) (hlk : meth.locks = false) (eT : T.heap = h) {w : Value} {ty : FieldType} {i : Instr} (hret : meth.sig.returnType = some ty) (hn : narrow ty w = w)
    (hi : (i = .ireturn ∧ (ty = .int ∨ ty = .boolean ∨ ty = .byte ∨ ty = .char ∨ ty = .short) ∧ ∃ z, w = .int z) ∨ (i = .lreturn ∧ ty = .long ∧ ∃ z, w = .long z) ∨ (i = .dreturn ∧ ty = .double ∧ ∃ z, w = .double z) ∨ (i = .freturn ∧ ty = .float ∧ ∃ z, w = .float z) ∨ (i = .areturn ∧ ty.isReference = true ∧ w.isRef = true))
    (hd : decode c.code pc = .ok (i, 1)) (hQ : Q (some w) h locs) (hc : cells ≤ C) (hs : slots ≤ S) : own_Go p e below (own_G s Q C S) (T.setTop (mkF m pc Ls (w :: rest))) := by
  obtain ⟨fs, hr, hrun, hended, hW, hsame⟩ := X.leave (v := some w) (fun q => by rw [hret] at q; cases q)
  exact ⟨_, _, retOut X hx hret hn hi hd hr, hrun, hended, _, _, rfl, by show Q _ T.heap _; rw [eT]; exact hQ, ⟨_, rfl⟩, hW, hsame.mono hc hs⟩
theorem own_retI (X : Stand p l e R s m args below meth c T locs cells slots) (hx : p.tables.exec = Jvm.exec) (hlk : meth.locks = false) (eT : T.heap = h) {z : Int32} (hret : meth.sig.returnType = some .int) (hd : decode c.code pc = .ok (.ireturn, 1)) (hQ : Q (some (.int z)) h locs) (hc : cells ≤ C) (hs : slots ≤ S) : own_Go p e below (own_G s Q C S) (T.setTop (mkF m pc Ls (.int z :: rest))) :=
  own_ret X hx hlk eT hret rfl (Or.inl ⟨rfl, Or.inl rfl, z, rfl⟩) hd hQ hc hs
theorem own_retZ (X : Stand p l e R s m args below meth c T locs cells slots) (hx : p.tables.exec = Jvm.exec) (hlk : meth.locks = false) (eT : T.heap = h) {z : Int32} (hret : meth.sig.returnType = some .boolean) (hd : decode c.code pc = .ok (.ireturn, 1)) (hz : z = 0 ∨ z = 1) (hQ : Q (some (.int z)) h locs) (hc : cells ≤ C) (hs : slots ≤ S) : own_Go p e below (own_G s Q C S) (T.setTop (mkF m pc Ls (.int z :: rest))) :=
  own_ret X hx hlk eT hret (by rcases hz with rfl | rfl <;> rfl) (Or.inl ⟨rfl, Or.inr (Or.inl rfl), z, rfl⟩) hd hQ hc hs
theorem own_retJ (X : Stand p l e R s m args below meth c T locs cells slots) (hx : p.tables.exec = Jvm.exec) (hlk : meth.locks = false) (eT : T.heap = h) {z : Int64} (hret : meth.sig.returnType = some .long) (hd : decode c.code pc = .ok (.lreturn, 1)) (hQ : Q (some (.long z)) h locs) (hc : cells ≤ C) (hs : slots ≤ S) : own_Go p e below (own_G s Q C S) (T.setTop (mkF m pc Ls (.long z :: rest))) :=
  own_ret X hx hlk eT hret rfl (Or.inr (Or.inl ⟨rfl, rfl, z, rfl⟩)) hd hQ hc hs
theorem own_retA (X : Stand p l e R s m args below meth c T locs cells slots) (hx : p.tables.exec = Jvm.exec) (hlk : meth.locks = false) (eT : T.heap = h) {a : Addr} {ty : FieldType} (hret : meth.sig.returnType = some ty) (ht : ty.isReference = true) (hd : decode c.code pc = .ok (.areturn, 1)) (hQ : Q (some (.ref a)) h locs) (hc : cells ≤ C) (hs : slots ≤ S) : own_Go p e below (own_G s Q C S) (T.setTop (mkF m pc Ls (.ref a :: rest))) :=
  own_ret X hx hlk eT hret (by cases ty <;> first | rfl | cases ht) (Or.inr (Or.inr (Or.inr (Or.inr ⟨rfl, ht, rfl⟩)))) hd hQ hc hs
theorem own_retV (X : Stand p l e R s m args below meth c T locs cells slots) (hx : p.tables.exec = Jvm.exec) (hlk : meth.locks = false) (eT : T.heap = h) (hret : meth.sig.returnType = none) (hd : decode c.code pc = .ok (.return_, 1)) (hQ : Q none h locs) (hc : cells ≤ C) (hs : slots ≤ S) : own_Go p e below (own_G s Q C S) (T.setTop (mkF m pc Ls [])) := by
  obtain ⟨fs, hr, hrun, hended, hW, hsame⟩ := X.leave (v := none) (fun _ => rfl)
  exact ⟨_, _, X.returnOut hx hret hd hr, hrun, hended, _, _, rfl, by show Q _ T.heap _; rw [eT]; exact hQ, ⟨_, rfl⟩, hW, hsame.mono hc hs⟩
end OwnSteps
def own_b (P : Prop) [Decidable P] : Int32 := if P then 1 else 0
theorem own_b_t {P : Prop} [Decidable P] (h : P) : own_b P = 1 := if_pos h
theorem own_b_f {P : Prop} [Decidable P] (h : ¬ P) : own_b P = 0 := if_neg h
theorem own_b_nz {P : Prop} [Decidable P] (h : P) : ¬ own_b P = 0 := by rw [own_b_t h]; decide
theorem own_b_01 (P : Prop) [Decidable P] : own_b P = 0 ∨ own_b P = 1 := by
  by_cases h : P
  · exact Or.inr (own_b_t h)
  · exact Or.inl (own_b_f h)
theorem own_tltJ {x y : Int64} (h : x < y) : ifCond.holds .lt (lcmpW x y) = true ∧ ifCond.holds .ge (lcmpW x y) = false := by
  have q := tlt (show lcmpW x y < 0 by rw [lcW]; exact (lc_lt x y).mpr h)
  exact ⟨(if0 _ _).trans q.1, (if0 _ _).trans q.2.1⟩
theorem own_fltJ {x y : Int64} (h : ¬ x < y) : ifCond.holds .lt (lcmpW x y) = false ∧ ifCond.holds .ge (lcmpW x y) = true := by
  have q := flt (show ¬ lcmpW x y < 0 by rw [lcW]; exact fun z => h ((lc_lt x y).mp z))
  exact ⟨(if0 _ _).trans q.1, (if0 _ _).trans q.2.1⟩
theorem own_tgtJ {x y : Int64} (h : y < x) : ifCond.holds .gt (lcmpW x y) = true ∧ ifCond.holds .le (lcmpW x y) = false := by
  have q := tlt (show 0 < lcmpW x y by rw [lcW]; exact (lc_gt x y).mpr h)
  exact ⟨(if0 _ _).trans q.2.2.1, (if0 _ _).trans q.2.2.2⟩
theorem own_fgtJ {x y : Int64} (h : ¬ y < x) : ifCond.holds .gt (lcmpW x y) = false ∧ ifCond.holds .le (lcmpW x y) = true := by
  have q := flt (show ¬ 0 < lcmpW x y by rw [lcW]; exact fun z => h ((lc_gt x y).mp z))
  exact ⟨(if0 _ _).trans q.2.2.1, (if0 _ _).trans q.2.2.2⟩
theorem own_teqJ {x y : Int64} (h : x = y) : ifCond.holds .eq (lcmpW x y) = true ∧ ifCond.holds .ne (lcmpW x y) = false := by
  have q := teq (show lcmpW x y = 0 by rw [lcW]; exact (lc_eq x y).mpr h)
  exact ⟨(if0 _ _).trans q.1, (if0 _ _).trans q.2⟩
theorem own_feqJ {x y : Int64} (h : ¬ x = y) : ifCond.holds .eq (lcmpW x y) = false ∧ ifCond.holds .ne (lcmpW x y) = true := by
  have q := feq (show ¬ lcmpW x y = 0 by rw [lcW]; exact fun z => h ((lc_eq x y).mp z))
  exact ⟨(if0 _ _).trans q.1, (if0 _ _).trans q.2⟩
section OwnHeap
variable {p : Program} {l : Launch} {e : Env} {R : Room} {s : State} {m : MethodId} {args : Array Value} {below : List Frame} {meth : Method} {c : Code} {T : State} {locs : List Loc} {cells slots : Nat} {Z : State} {a0 : Array Value} {h : Heap} {a : Addr} {k : ClassId} {n j : Int32} {vs : List Value} {dv : Value} {g : JFrame} {rest : List Value}
theorem own_newP (X : Stand p l e R s m args below meth c T locs cells slots) (hx : p.tables.exec = Jvm.exec) (hZ : Z.Warmed39 s.vm) {aty : ArrayType} (w : (Cond.arrayClass (newarray.typeOf aty)).before a0 Z = true) (eT : T.heap = h) (hg : g.method = m) (hd : decode c.code g.pc = .ok (.newarray aty, 2)) (hs : g.stack = .int n :: rest)
    (hn : ¬ n < 0) {cap : Nat} (hcap : n.toNatClampNeg ≤ cap) (hb : cap * 8 ≤ 536870912) (hc : cells + 1 ≤ R.cells) (hl : slots + cap ≤ R.slots) :
    ∃ T' h' cA a, a = h.size ∧ Stand p l e R s m args below meth c T' locs (cells + 1) (slots + cap) ∧ T'.heap = h' ∧ Ext h h' ∧ Arv Z h' a cA (newarray.typeOf aty) n (List.replicate cap (defaultValue (newarray.typeOf aty))) (defaultValue (newarray.typeOf aty)) ∧
      Steps p.tables e below (T.setTop g) (T'.setTop { g with pc := g.pc + 2, stack := .ref a :: rest }) := by
  obtain ⟨T', h', cA, X', e', E, A, st⟩ := newP X hx hZ w eT hg hd hs hn hcap hb hc hl
  exact ⟨T', h', cA, _, rfl, X', e', E, (Arv.new A hn).pad (pad_rep [] _ cap), st _ (Steps.refl _)⟩
theorem own_newO (X : Stand p l e R s m args below meth c T locs cells slots) (hx : p.tables.exec = Jvm.exec) (hZ : Z.Warmed39 s.vm) {own C : String} {index n : Nat} (hown : s.vm.findClass own = some m.cls) (w : (Cond.classLink own index C).before a0 Z = true) (wi : (Cond.instantiable C n).before a0 Z = true) (wz : (Cond.initialized C).before a0 Z = true) (eT : T.heap = h)
    (hg : g.method = m) (hd : decode c.code g.pc = .ok (.new index, 3)) (hc : cells + 1 ≤ R.cells) (hl : slots + n ≤ R.slots) :
    ∃ T' h' a, a = h.size ∧ Stand p l e R s m args below meth c T' locs (cells + 1) (slots + n) ∧ T'.heap = h' ∧ Ext h h' ∧ Exa Z h' a C ∧ (∀ {O nm d : String} {ty : FieldType}, Laid Z a0 C O nm d → parseFieldDescriptor d = some ty → Fld Z h' a O nm d (defaultValue ty)) ∧
      Steps p.tables e below (T.setTop g) (T'.setTop { g with pc := g.pc + 3, stack := .ref a :: g.stack }) := by
  obtain ⟨T', h', X', e', E, A, D, -, st⟩ := newO X hx hZ hown w wi wz eT hg hd hc hl
  exact ⟨T', h', _, rfl, X', e', E, A, D, st _ (Steps.refl _)⟩
theorem own_stI (X : Stand p l e R s m args below meth c T locs cells slots) (hx : p.tables.exec = Jvm.exec) (hZ : Z.Warmed39 s.vm) (eT : T.heap = h) (F : Arv Z h a k .int n vs dv) (h0 : ¬ j < 0) (h1 : j < n) {x : Int32} (hg : g.method = m) (hs : g.stack = .int x :: .int j :: .ref a :: rest) (hd : decode c.code g.pc = .ok (.iastore, 1)) {i : Nat} (hi : j.toNatClampNeg = i) (hl : i < vs.length) :
    ∃ T' h', Stand p l e R s m args below meth c T' (locs ++ [⟨a, j.toNatClampNeg⟩]) cells slots ∧ T'.heap = h' ∧ Wr h h' a j.toNatClampNeg (.int x) ∧ Arv Z h' a k .int n (vs.set i (.int x)) dv ∧ Steps p.tables e below (T.setTop g) (T'.setTop { g with pc := g.pc + 1, stack := rest }) := by
  obtain ⟨cl, A, q1, S, q3, H, G⟩ := F
  obtain ⟨T', h', X', e', W, st⟩ := stI X hx hZ eT A (inb_of S ⟨h0, h1⟩) hg hs hd
  exact ⟨T', h', X', e', W, Arv.set A q1 S q3 H G rfl W i hi hl, st _ (Steps.refl _)⟩
theorem own_stC (X : Stand p l e R s m args below meth c T locs cells slots) (hx : p.tables.exec = Jvm.exec) (hZ : Z.Warmed39 s.vm) (eT : T.heap = h) (F : Arv Z h a k .char n vs dv) (h0 : ¬ j < 0) (h1 : j < n) {x : Int32} (hg : g.method = m) (hs : g.stack = .int x :: .int j :: .ref a :: rest) (hd : decode c.code g.pc = .ok (.castore, 1)) {i : Nat} (hi : j.toNatClampNeg = i) (hl : i < vs.length) :
    ∃ T' h', Stand p l e R s m args below meth c T' (locs ++ [⟨a, j.toNatClampNeg⟩]) cells slots ∧ T'.heap = h' ∧ Wr h h' a j.toNatClampNeg (.int (nar .char x)) ∧ Arv Z h' a k .char n (vs.set i (.int (nar .char x))) dv ∧ Steps p.tables e below (T.setTop g) (T'.setTop { g with pc := g.pc + 1, stack := rest }) := by
  obtain ⟨cl, A, q1, S, q3, H, G⟩ := F
  obtain ⟨T', h', X', e', W, st⟩ := stC X hx hZ eT A (inb_of S ⟨h0, h1⟩) hg hs hd
  exact ⟨T', h', X', e', W, Arv.set A q1 S q3 H G (fits_nar_char _) W i hi hl, st _ (Steps.refl _)⟩
theorem own_stB (X : Stand p l e R s m args below meth c T locs cells slots) (hx : p.tables.exec = Jvm.exec) (hZ : Z.Warmed39 s.vm) (eT : T.heap = h) (F : Arv Z h a k .byte n vs dv) (h0 : ¬ j < 0) (h1 : j < n) {x : Int32} (hg : g.method = m) (hs : g.stack = .int x :: .int j :: .ref a :: rest) (hd : decode c.code g.pc = .ok (.bastore, 1)) {i : Nat} (hi : j.toNatClampNeg = i) (hl : i < vs.length) :
    ∃ T' h', Stand p l e R s m args below meth c T' (locs ++ [⟨a, j.toNatClampNeg⟩]) cells slots ∧ T'.heap = h' ∧ Wr h h' a j.toNatClampNeg (.int (nar .byte x)) ∧ Arv Z h' a k .byte n (vs.set i (.int (nar .byte x))) dv ∧ Steps p.tables e below (T.setTop g) (T'.setTop { g with pc := g.pc + 1, stack := rest }) := by
  obtain ⟨cl, A, q1, S, q3, H, G⟩ := F
  obtain ⟨T', h', X', e', W, st⟩ := stB X hx hZ eT A (inb_of S ⟨h0, h1⟩) hg hs hd
  exact ⟨T', h', X', e', W, Arv.set A q1 S q3 H G (fits_nar_byte _) W i hi hl, st _ (Steps.refl _)⟩
theorem own_ldI (X : Stand p l e R s m args below meth c T locs cells slots) (hx : p.tables.exec = Jvm.exec) (hZ : Z.Warmed39 s.vm) (eT : T.heap = h) (F : Arv Z h a k .int n vs dv) (h0 : ¬ j < 0) (h1 : j < n) {v : Int32} (hv : vs.getD j.toNatClampNeg dv = .int v) (hg : g.method = m) (hs : g.stack = .int j :: .ref a :: rest) (hd : decode c.code g.pc = .ok (.iaload, 1)) :
    Steps p.tables e below (T.setTop g) (T.setTop { g with pc := g.pc + 1, stack := .int v :: rest }) := by
  obtain ⟨cl, A, q1, S, q3, H, G⟩ := F
  exact X.iaload hx (j := j) (v := .int v) (by rw [eT]; exact A.1) (State.isArrayOf_alike hZ.alike A.2.1) A.2.2 (inb_of S ⟨h0, h1⟩) (H.at (inb_of S ⟨h0, h1⟩) hv) hg hs hd _ (Steps.refl _)
theorem own_ldC (X : Stand p l e R s m args below meth c T locs cells slots) (hx : p.tables.exec = Jvm.exec) (hZ : Z.Warmed39 s.vm) (eT : T.heap = h) (F : Arv Z h a k .char n vs dv) (h0 : ¬ j < 0) (h1 : j < n) {v : Int32} (hv : vs.getD j.toNatClampNeg dv = .int v) (hg : g.method = m) (hs : g.stack = .int j :: .ref a :: rest) (hd : decode c.code g.pc = .ok (.caload, 1)) :
    Steps p.tables e below (T.setTop g) (T.setTop { g with pc := g.pc + 1, stack := .int v :: rest }) := by
  obtain ⟨cl, A, q1, S, q3, H, G⟩ := F
  exact X.caload hx (j := j) (v := .int v) (by rw [eT]; exact A.1) (State.isArrayOf_alike hZ.alike A.2.1) A.2.2 (inb_of S ⟨h0, h1⟩) (H.at (inb_of S ⟨h0, h1⟩) hv) hg hs hd _ (Steps.refl _)
theorem own_ldB (X : Stand p l e R s m args below meth c T locs cells slots) (hx : p.tables.exec = Jvm.exec) (hZ : Z.Warmed39 s.vm) (eT : T.heap = h) (F : Arv Z h a k .byte n vs dv) (h0 : ¬ j < 0) (h1 : j < n) {v : Int32} (hv : vs.getD j.toNatClampNeg dv = .int v) (hg : g.method = m) (hs : g.stack = .int j :: .ref a :: rest) (hd : decode c.code g.pc = .ok (.baload, 1)) :
    Steps p.tables e below (T.setTop g) (T.setTop { g with pc := g.pc + 1, stack := .int v :: rest }) := by
  obtain ⟨cl, A, q1, S, q3, H, G⟩ := F
  exact X.baloadBytes hx (j := j) (v := .int v) (by rw [eT]; exact A.1) (State.isArrayOf_alike hZ.alike A.2.1) A.2.2 (inb_of S ⟨h0, h1⟩) (H.at (inb_of S ⟨h0, h1⟩) hv) hg hs hd _ (Steps.refl _)
theorem own_len {ty : FieldType} (X : Stand p l e R s m args below meth c T locs cells slots) (hx : p.tables.exec = Jvm.exec) (hZ : Z.Warmed39 s.vm) (eT : T.heap = h) (F : Arv Z h a k ty n vs dv) (hg : g.method = m) (hs : g.stack = .ref a :: rest) (hd : decode c.code g.pc = .ok (.arraylength, 1)) :
    Steps p.tables e below (T.setTop g) (T.setTop { g with pc := g.pc + 1, stack := .int n :: rest }) := by
  obtain ⟨cl, A, q1, S, q3, H, G⟩ := F
  have r := X.arraylength hx (by rw [eT]; exact A.1) (State.isArrayOf_alike hZ.alike A.2.1) hg hs hd _ (Steps.refl _)
  rw [len_of S q3] at r
  exact r
theorem own_newPE (X : Stand p l e R s m args below meth c T locs cells slots) (hx : p.tables.exec = Jvm.exec) (hZ : Z.Warmed39 s.vm) {aty : ArrayType} (w : (Cond.arrayClass (newarray.typeOf aty)).before a0 Z = true) (eT : T.heap = h) (hg : g.method = m) (hd : decode c.code g.pc = .ok (.newarray aty, 2)) (hs : g.stack = .int n :: rest)
    (hn : ¬ n < 0) {cap : Nat} (hcap : n.toNatClampNeg ≤ cap) (hb : cap * 8 ≤ 536870912) (hc : cells + 1 ≤ R.cells) (hl : slots + cap ≤ R.slots) {ad : String} (had : "[" ++ (newarray.typeOf aty).toString = ad) :
    ∃ T' h' cA a, a = h.size ∧ Stand p l e R s m args below meth c T' locs (cells + 1) (slots + cap) ∧ T'.heap = h' ∧ Ext h h' ∧ Arv Z h' a cA (newarray.typeOf aty) n (List.replicate cap (defaultValue (newarray.typeOf aty))) (defaultValue (newarray.typeOf aty)) ∧ Exa Z h' a ad ∧
      Steps p.tables e below (T.setTop g) (T'.setTop { g with pc := g.pc + 2, stack := .ref a :: rest }) := by
  obtain ⟨T', h', cA, X', e', E, A, E2, st⟩ := newPE X hx hZ w eT hg hd hs hn hcap hb hc hl had
  exact ⟨T', h', cA, _, rfl, X', e', E, (Arv.new A hn).pad (pad_rep [] _ cap), E2, st _ (Steps.refl _)⟩
theorem own_clone {ty : FieldType} (X : Stand p l e R s m args below meth c T locs cells slots) (hx : p.tables.exec = Jvm.exec) (hZ : Z.Warmed39 s.vm) {own ad : String} {index : Nat} (hown : s.vm.findClass own = some m.cls)
    (w1 : (Cond.methodLink own index ⟨ad, "clone", "()Ljava/lang/Object;"⟩).before a0 Z = true) (w2 : (Cond.sameMethod ad "java/lang/Object" "clone" "()Ljava/lang/Object;").before a0 Z = true) (w3 : (Cond.native ⟨"java/lang/Object", "clone", "()Ljava/lang/Object;"⟩).before a0 Z = true)
    (w4 : (Cond.instanceMethod ⟨"java/lang/Object", "clone", "()Ljava/lang/Object;"⟩).before a0 Z = true) (w5 : (Cond.selects ad ⟨ad, "clone", "()Ljava/lang/Object;"⟩ ⟨"java/lang/Object", "clone", "()Ljava/lang/Object;"⟩).before a0 Z = true) (w6 : (Cond.castable ad "java/lang/Cloneable").before a0 Z = true)
    (eT : T.heap = h) (F : Arv Z h a k ty n vs dv) (E : Exa Z h a ad) (hg : g.method = m) (hsize : g.locals.size = c.maxLocals) (hst : g.stack = .ref a :: rest) (hd : decode c.code g.pc = .ok (.invokevirtual index, 3))
    (hf : 1 ≤ R.frames) {W cap : Nat} (hW : 2 * g.monitorRoom + (rest.map fun v => v.category).sum ≤ W) (hl : W + 14 ≤ R.locals) (hcap : n.toNatClampNeg ≤ cap) (hc : cells + 1 ≤ R.cells) (hsl : slots + cap ≤ R.slots) :
    ∃ T' h' b, b = h.size ∧ Stand p l e R s m args below meth c T' locs (cells + 1) (slots + cap) ∧ T'.heap = h' ∧ Ext h h' ∧ Arv Z h' b k ty n vs dv ∧ Exa Z h' b ad ∧ Steps p.tables e below (T.setTop g) (T'.setTop { g with pc := g.pc + 3, stack := .ref b :: rest }) := by
  obtain ⟨cl, A, q1, S, q3, H, G⟩ := F
  have FC : FitC Z cl := fitC_of A fun i hi v hv => by rw [H i hi] at hv; cases hv; exact G i hi
  obtain ⟨T', h', X', e', ex, A', E', st⟩ := cloneA X hx hZ hown w1 w2 w3 w4 w5 w6 eT A E FC hg hsize hst hd hf hW hl (by rw [S]; exact hcap) hc hsl
  exact ⟨T', h', _, rfl, X', e', ex, ⟨cloneOf cl, A', q1, S, q3, H, G⟩, E', st _ (Steps.refl _)⟩
theorem own_born {h : Heap} {a b : Addr} (q : a < h.size) (r : b = h.size) : a ≠ b := Nat.ne_of_lt (r ▸ q)
end OwnHeap
def own_ws (c : Int32) : Int32 := own_b (c = (32 : Int32) ∨ c = (9 : Int32) ∨ c = (13 : Int32) ∨ c = (10 : Int32))
def own_bit (c : Int32) : Int64 := (((4294977024 : Int64).toUInt64 >>> (c &&& 0x3f).toInt64.toUInt64).toInt64) &&& (1 : Int64)
def own_ref (c : Int32) : Int32 := own_b (¬ (32 : Int32) < c ∧ ¬ own_bit c = (0 : Int64))
theorem own_ch (x : Int32) : 0 ≤ (x.toUInt32.toUInt16.toUInt32.toInt32).toInt ∧ (x.toUInt32.toUInt16.toUInt32.toInt32).toInt ≤ 65535 := by
  have h : (x.toUInt32.toUInt16.toUInt32.toInt32).toInt = (x.toUInt32.toUInt16.toUInt32.toBitVec).toInt := rfl
  have n : (x.toUInt32.toUInt16.toUInt32.toBitVec).toNat = x.toUInt32.toUInt16.toNat := by
    show x.toUInt32.toUInt16.toUInt32.toNat = _
    exact UInt16.toNat_toUInt32 _
  have l := x.toUInt32.toUInt16.toNat_lt
  rw [h, BitVec.toInt_eq_toNat_cond, n]
  split <;> omega
theorem own_law (c : Int32) (h : 0 ≤ c.toInt ∧ c.toInt ≤ 65535) : own_ws c = own_ref c := by
  have e32 : (32 : Int32).toInt = 32 := by decide
  by_cases hc : (32 : Int32) < c
  · have h1 : ¬ (c = (32 : Int32) ∨ c = (9 : Int32) ∨ c = (13 : Int32) ∨ c = (10 : Int32)) := by
      rintro (rfl | rfl | rfl | rfl) <;> revert hc <;> decide
    rw [own_ws, own_ref, own_b_f h1, own_b_f (fun q => q.1 hc)]
  · rw [Int32.lt_iff_toInt_lt, e32] at hc
    have hk : ∃ k : Nat, k < 33 ∧ c = Int32.ofNat k := by
      refine ⟨c.toInt.toNat, by omega, ?_⟩
      apply Int32.toInt_inj.mp
      rw [Int32.toInt_ofNat_of_lt (by omega)]
      omega
    obtain ⟨k, hk, rfl⟩ := hk
    clear h hc
    have all : ∀ k : Fin 33, own_ws (Int32.ofNat k.val) = own_ref (Int32.ofNat k.val) := by decide
    exact all ⟨k, hk⟩
theorem own_k4 (x : Int32) (h : (x &&& (7 : Int32)) < (4 : Int32)) : (x &&& (7 : Int32)) = (0 : Int32) ∨ (x &&& (7 : Int32)) = (1 : Int32) ∨ (x &&& (7 : Int32)) = (2 : Int32) ∨ (x &&& (7 : Int32)) = (3 : Int32) := by
  have e := Jvm.Kit.i32_mask x 7 (k := 3) (by decide) (by decide)
  have e4 : (4 : Int32).toInt = 4 := by decide
  rw [Int32.lt_iff_toInt_lt, e4] at h
  simp only [← Int32.toInt_inj]
  have e0 : (0 : Int32).toInt = 0 := by decide
  have e1 : (1 : Int32).toInt = 1 := by decide
  have e2 : (2 : Int32).toInt = 2 := by decide
  have e3 : (3 : Int32).toInt = 3 := by decide
  omega
theorem own_isWhitespace_0 : decode prog_6_method_7_code 0 = .ok (.iload_n 0, 1) := by decide +kernel
theorem own_isWhitespace_1 : decode prog_6_method_7_code 1 = .ok (.bipush 32, 2) := by decide +kernel
theorem own_isWhitespace_3 : decode prog_6_method_7_code 3 = .ok (.if_icmp .eq 21, 3) := by decide +kernel
theorem own_isWhitespace_6 : decode prog_6_method_7_code 6 = .ok (.iload_n 0, 1) := by decide +kernel
theorem own_isWhitespace_7 : decode prog_6_method_7_code 7 = .ok (.bipush 9, 2) := by decide +kernel
theorem own_isWhitespace_9 : decode prog_6_method_7_code 9 = .ok (.if_icmp .eq 15, 3) := by decide +kernel
theorem own_isWhitespace_12 : decode prog_6_method_7_code 12 = .ok (.iload_n 0, 1) := by decide +kernel
theorem own_isWhitespace_13 : decode prog_6_method_7_code 13 = .ok (.bipush 13, 2) := by decide +kernel
theorem own_isWhitespace_15 : decode prog_6_method_7_code 15 = .ok (.if_icmp .eq 9, 3) := by decide +kernel
theorem own_isWhitespace_18 : decode prog_6_method_7_code 18 = .ok (.iload_n 0, 1) := by decide +kernel
theorem own_isWhitespace_19 : decode prog_6_method_7_code 19 = .ok (.bipush 10, 2) := by decide +kernel
theorem own_isWhitespace_21 : decode prog_6_method_7_code 21 = .ok (.if_icmp .ne 7, 3) := by decide +kernel
theorem own_isWhitespace_24 : decode prog_6_method_7_code 24 = .ok (.iconst 1, 1) := by decide +kernel
theorem own_isWhitespace_25 : decode prog_6_method_7_code 25 = .ok (.goto 4, 3) := by decide +kernel
theorem own_isWhitespace_28 : decode prog_6_method_7_code 28 = .ok (.iconst 0, 1) := by decide +kernel
theorem own_isWhitespace_29 : decode prog_6_method_7_code 29 = .ok (.ireturn, 1) := by decide +kernel
theorem own_f1 : plainName "org/responsa/io/StartTag" = true := by first | (simp [plainName, overriddenIn]; done) | decide +kernel
theorem own_f2 (m : MethodId) (x0 : Int32) : entryFrame m #[(.int x0)] 1 = mkF m 0 #[.val (.int x0)] [] := by first | (simp [entryFrame, mkF, argsToLocals, Value.category]; done) | rfl
set_option maxRecDepth 65536 in
set_option maxHeartbeats 40000000 in
theorem rm_ws (l : Launch) (Z : State) (a0 : Array Value) (hw : ∀ d ∈ tables_1, d.before a0 Z = true) (c1 : Int32) (h0 : Heap) (n0 : Nat) (Z0 : n0 ≤ h0.size)  :
    own_Met l Z (⟨"org/responsa/io/StartTag", "isWhitespace", "(C)Z"⟩ : MethodName) prog_6_method_7_code 1 (some .boolean) ({ frames := 0, cells := 0, slots := 0, locals := 0 } : Room) #[(.int c1)] h0 (fun v h L => v = some (.int (own_ws c1)) ∧ L = [] ∧ h = h0) := by
  refine MetFree.of_bodySF (plainFor_of_name own_f1) hisR ?_
  intro p e s m args below meth c s₁ Bd hml0 hP hK
  obtain ⟨rfl, hZ, hh⟩ := hP
  have hx := Bd.exec
  have hby := Bd.bytes
  have hlk : meth.locks = false := Bd.notSynchronized
  have hml : c.maxLocals = 1 := hml0
  have hown : s.vm.findClass "org/responsa/io/StartTag" = some m.cls := findClass_of_methodNamed Bd.named
  have hnm := (name_of_methodNamed Bd.named Bd.method).1
  have X0 : Stand p l e ({ frames := 0, cells := 0, slots := 0, locals := 0 } : Room) s m #[(.int c1)] below meth c s₁ [] 0 0 := Stand.of_body Bd
  have e0 : s₁.heap = h0 := by rw [← hh, Bd.state]; rfl
  show own_Go p e below (own_G s (fun v h L => v = some (.int (own_ws c1)) ∧ L = [] ∧ h = h0) 0 0) (s₁.setTop (entryFrame m #[(.int c1)] 1))
  rw [own_f2]
  show own_Go p e below _ (s₁.setTop (mkF m 0 #[.val (.int c1)] []))
  refine own_go (XS.iloadN X0.here hx rfl (hb hby own_isWhitespace_0) rfl (Steps.refl _)) ?_
  show own_Go p e below _ (s₁.setTop (mkF m 1 #[.val (.int c1)] [(.int c1)]))
  refine own_go (XS.bipush X0.here hx rfl (hb hby own_isWhitespace_1) (Steps.refl _)) ?_
  show own_Go p e below _ (s₁.setTop (mkF m 3 #[.val (.int c1)] [(.int (32 : Int32)), (.int c1)]))
  by_cases hc3 : c1 = (32 : Int32)
  · refine own_go (XS.icmpYes X0.here hx rfl (pc0 := 3) (pc' := 24) rfl (hb hby own_isWhitespace_3) rfl (teq hc3).1 (by decide) (by decide) (Steps.refl _)) ?_
    show own_Go p e below _ (s₁.setTop (mkF m 24 #[.val (.int c1)] []))
    refine own_go (XS.iconst X0.here hx rfl (hb hby own_isWhitespace_24) (Steps.refl _)) ?_
    show own_Go p e below _ (s₁.setTop (mkF m 25 #[.val (.int c1)] [(.int (1 : Int32))]))
    refine own_go (XS.goto X0.here hx rfl (pc0 := 25) (pc' := 29) rfl (hb hby own_isWhitespace_25) (by decide) (by decide) (Steps.refl _)) ?_
    show own_Go p e below _ (s₁.setTop (mkF m 29 #[.val (.int c1)] [(.int (1 : Int32))]))
    exact own_retZ X0 hx hlk e0 Bd.returns (hb hby own_isWhitespace_29) (Or.inr rfl) ⟨congrArg (fun u => some (Value.int u)) ((own_b_t (by simp [hc3])).symm), rfl, rfl⟩ (by decide) (by decide)
  · refine own_go (XS.icmpNo X0.here hx rfl (hb hby own_isWhitespace_3) rfl (feq hc3).1 (Steps.refl _)) ?_
    show own_Go p e below _ (s₁.setTop (mkF m 6 #[.val (.int c1)] []))
    refine own_go (XS.iloadN X0.here hx rfl (hb hby own_isWhitespace_6) rfl (Steps.refl _)) ?_
    show own_Go p e below _ (s₁.setTop (mkF m 7 #[.val (.int c1)] [(.int c1)]))
    refine own_go (XS.bipush X0.here hx rfl (hb hby own_isWhitespace_7) (Steps.refl _)) ?_
    show own_Go p e below _ (s₁.setTop (mkF m 9 #[.val (.int c1)] [(.int (9 : Int32)), (.int c1)]))
    by_cases hc9 : c1 = (9 : Int32)
    · refine own_go (XS.icmpYes X0.here hx rfl (pc0 := 9) (pc' := 24) rfl (hb hby own_isWhitespace_9) rfl (teq hc9).1 (by decide) (by decide) (Steps.refl _)) ?_
      show own_Go p e below _ (s₁.setTop (mkF m 24 #[.val (.int c1)] []))
      refine own_go (XS.iconst X0.here hx rfl (hb hby own_isWhitespace_24) (Steps.refl _)) ?_
      show own_Go p e below _ (s₁.setTop (mkF m 25 #[.val (.int c1)] [(.int (1 : Int32))]))
      refine own_go (XS.goto X0.here hx rfl (pc0 := 25) (pc' := 29) rfl (hb hby own_isWhitespace_25) (by decide) (by decide) (Steps.refl _)) ?_
      show own_Go p e below _ (s₁.setTop (mkF m 29 #[.val (.int c1)] [(.int (1 : Int32))]))
      exact own_retZ X0 hx hlk e0 Bd.returns (hb hby own_isWhitespace_29) (Or.inr rfl) ⟨congrArg (fun u => some (Value.int u)) ((own_b_t (by simp [hc3, hc9])).symm), rfl, rfl⟩ (by decide) (by decide)
    · refine own_go (XS.icmpNo X0.here hx rfl (hb hby own_isWhitespace_9) rfl (feq hc9).1 (Steps.refl _)) ?_
      show own_Go p e below _ (s₁.setTop (mkF m 12 #[.val (.int c1)] []))
      refine own_go (XS.iloadN X0.here hx rfl (hb hby own_isWhitespace_12) rfl (Steps.refl _)) ?_
      show own_Go p e below _ (s₁.setTop (mkF m 13 #[.val (.int c1)] [(.int c1)]))
      refine own_go (XS.bipush X0.here hx rfl (hb hby own_isWhitespace_13) (Steps.refl _)) ?_
      show own_Go p e below _ (s₁.setTop (mkF m 15 #[.val (.int c1)] [(.int (13 : Int32)), (.int c1)]))
      by_cases hc15 : c1 = (13 : Int32)
      · refine own_go (XS.icmpYes X0.here hx rfl (pc0 := 15) (pc' := 24) rfl (hb hby own_isWhitespace_15) rfl (teq hc15).1 (by decide) (by decide) (Steps.refl _)) ?_
        show own_Go p e below _ (s₁.setTop (mkF m 24 #[.val (.int c1)] []))
        refine own_go (XS.iconst X0.here hx rfl (hb hby own_isWhitespace_24) (Steps.refl _)) ?_
        show own_Go p e below _ (s₁.setTop (mkF m 25 #[.val (.int c1)] [(.int (1 : Int32))]))
        refine own_go (XS.goto X0.here hx rfl (pc0 := 25) (pc' := 29) rfl (hb hby own_isWhitespace_25) (by decide) (by decide) (Steps.refl _)) ?_
        show own_Go p e below _ (s₁.setTop (mkF m 29 #[.val (.int c1)] [(.int (1 : Int32))]))
        exact own_retZ X0 hx hlk e0 Bd.returns (hb hby own_isWhitespace_29) (Or.inr rfl) ⟨congrArg (fun u => some (Value.int u)) ((own_b_t (by simp [hc3, hc9, hc15])).symm), rfl, rfl⟩ (by decide) (by decide)
      · refine own_go (XS.icmpNo X0.here hx rfl (hb hby own_isWhitespace_15) rfl (feq hc15).1 (Steps.refl _)) ?_
        show own_Go p e below _ (s₁.setTop (mkF m 18 #[.val (.int c1)] []))
        refine own_go (XS.iloadN X0.here hx rfl (hb hby own_isWhitespace_18) rfl (Steps.refl _)) ?_
        show own_Go p e below _ (s₁.setTop (mkF m 19 #[.val (.int c1)] [(.int c1)]))
        refine own_go (XS.bipush X0.here hx rfl (hb hby own_isWhitespace_19) (Steps.refl _)) ?_
        show own_Go p e below _ (s₁.setTop (mkF m 21 #[.val (.int c1)] [(.int (10 : Int32)), (.int c1)]))
        by_cases hc21 : c1 = (10 : Int32)
        · refine own_go (XS.icmpNo X0.here hx rfl (hb hby own_isWhitespace_21) rfl (teq hc21).2 (Steps.refl _)) ?_
          show own_Go p e below _ (s₁.setTop (mkF m 24 #[.val (.int c1)] []))
          refine own_go (XS.iconst X0.here hx rfl (hb hby own_isWhitespace_24) (Steps.refl _)) ?_
          show own_Go p e below _ (s₁.setTop (mkF m 25 #[.val (.int c1)] [(.int (1 : Int32))]))
          refine own_go (XS.goto X0.here hx rfl (pc0 := 25) (pc' := 29) rfl (hb hby own_isWhitespace_25) (by decide) (by decide) (Steps.refl _)) ?_
          show own_Go p e below _ (s₁.setTop (mkF m 29 #[.val (.int c1)] [(.int (1 : Int32))]))
          exact own_retZ X0 hx hlk e0 Bd.returns (hb hby own_isWhitespace_29) (Or.inr rfl) ⟨congrArg (fun u => some (Value.int u)) ((own_b_t (by simp [hc3, hc9, hc15, hc21])).symm), rfl, rfl⟩ (by decide) (by decide)
        · refine own_go (XS.icmpYes X0.here hx rfl (pc0 := 21) (pc' := 28) rfl (hb hby own_isWhitespace_21) rfl (feq hc21).2 (by decide) (by decide) (Steps.refl _)) ?_
          show own_Go p e below _ (s₁.setTop (mkF m 28 #[.val (.int c1)] []))
          refine own_go (XS.iconst X0.here hx rfl (hb hby own_isWhitespace_28) (Steps.refl _)) ?_
          show own_Go p e below _ (s₁.setTop (mkF m 29 #[.val (.int c1)] [(.int (0 : Int32))]))
          exact own_retZ X0 hx hlk e0 Bd.returns (hb hby own_isWhitespace_29) (Or.inl rfl) ⟨congrArg (fun u => some (Value.int u)) ((own_b_f (by simp [hc3, hc9, hc15, hc21])).symm), rfl, rfl⟩ (by decide) (by decide)
theorem own_reference_0 : decode method_2_code 0 = .ok (.iload_n 0, 1) := by decide +kernel
theorem own_reference_1 : decode method_2_code 1 = .ok (.istore_n 1, 1) := by decide +kernel
theorem own_reference_2 : decode method_2_code 2 = .ok (.iload_n 1, 1) := by decide +kernel
theorem own_reference_3 : decode method_2_code 3 = .ok (.bipush 32, 2) := by decide +kernel
theorem own_reference_5 : decode method_2_code 5 = .ok (.if_icmp .le 5, 3) := by decide +kernel
theorem own_reference_8 : decode method_2_code 8 = .ok (.iconst 0, 1) := by decide +kernel
theorem own_reference_9 : decode method_2_code 9 = .ok (.ireturn, 1) := by decide +kernel
theorem own_reference_10 : decode method_2_code 10 = .ok (.ldc2_w 7, 3) := by decide +kernel
theorem own_reference_13 : decode method_2_code 13 = .ok (.iload_n 1, 1) := by decide +kernel
theorem own_reference_14 : decode method_2_code 14 = .ok (.lushr, 1) := by decide +kernel
theorem own_reference_15 : decode method_2_code 15 = .ok (.lconst 1, 1) := by decide +kernel
theorem own_reference_16 : decode method_2_code 16 = .ok (.land, 1) := by decide +kernel
theorem own_reference_17 : decode method_2_code 17 = .ok (.lconst 0, 1) := by decide +kernel
theorem own_reference_18 : decode method_2_code 18 = .ok (.lcmp, 1) := by decide +kernel
theorem own_reference_19 : decode method_2_code 19 = .ok (.ifCond .eq 7, 3) := by decide +kernel
theorem own_reference_22 : decode method_2_code 22 = .ok (.iconst 1, 1) := by decide +kernel
theorem own_reference_23 : decode method_2_code 23 = .ok (.goto 4, 3) := by decide +kernel
theorem own_reference_26 : decode method_2_code 26 = .ok (.iconst 0, 1) := by decide +kernel
theorem own_reference_27 : decode method_2_code 27 = .ok (.ireturn, 1) := by decide +kernel
theorem own_f4 : plainName "org/responsa/io/StartTagIsWhitespacePinLaw" = true := by first | (simp [plainName, overriddenIn]; done) | decide +kernel
theorem own_f5 (m : MethodId) (x0 : Int32) : entryFrame m #[(.int x0)] 2 = mkF m 0 #[.val (.int x0), .unset] [] := by first | (simp [entryFrame, mkF, argsToLocals, Value.category]; done) | rfl
set_option maxRecDepth 65536 in
set_option maxHeartbeats 40000000 in
theorem rm_ref (l : Launch) (Z : State) (a0 : Array Value) (hw : ∀ d ∈ tables_1, d.before a0 Z = true) (c1 : Int32) (h0 : Heap) (n0 : Nat) (Z0 : n0 ≤ h0.size)  :
    own_Met l Z (⟨"org/responsa/io/StartTagIsWhitespacePinLaw", "reference", "(C)Z"⟩ : MethodName) method_2_code 2 (some .boolean) ({ frames := 0, cells := 0, slots := 0, locals := 0 } : Room) #[(.int c1)] h0 (fun v h L => v = some (.int (own_ref c1)) ∧ L = [] ∧ h = h0) := by
  refine MetFree.of_bodySF (plainFor_of_name own_f4) hisR ?_
  intro p e s m args below meth c s₁ Bd hml0 hP hK
  obtain ⟨rfl, hZ, hh⟩ := hP
  have hx := Bd.exec
  have hby := Bd.bytes
  have hlk : meth.locks = false := Bd.notSynchronized
  have hml : c.maxLocals = 2 := hml0
  have hown : s.vm.findClass "org/responsa/io/StartTagIsWhitespacePinLaw" = some m.cls := findClass_of_methodNamed Bd.named
  have hnm := (name_of_methodNamed Bd.named Bd.method).1
  have X0 : Stand p l e ({ frames := 0, cells := 0, slots := 0, locals := 0 } : Room) s m #[(.int c1)] below meth c s₁ [] 0 0 := Stand.of_body Bd
  have e0 : s₁.heap = h0 := by rw [← hh, Bd.state]; rfl
  show own_Go p e below (own_G s (fun v h L => v = some (.int (own_ref c1)) ∧ L = [] ∧ h = h0) 0 0) (s₁.setTop (entryFrame m #[(.int c1)] 2))
  rw [own_f5]
  show own_Go p e below _ (s₁.setTop (mkF m 0 #[.val (.int c1), .unset] []))
  refine own_go (XS.iloadN X0.here hx rfl (hb hby own_reference_0) rfl (Steps.refl _)) ?_
  show own_Go p e below _ (s₁.setTop (mkF m 1 #[.val (.int c1), .unset] [(.int c1)]))
  refine own_go (XS.istoreN X0.here hx rfl (hb hby own_reference_1) rfl (l' := #[.val (.int c1), .val (.int c1)]) rfl (Steps.refl _)) ?_
  show own_Go p e below _ (s₁.setTop (mkF m 2 #[.val (.int c1), .val (.int c1)] []))
  refine own_go (XS.iloadN X0.here hx rfl (hb hby own_reference_2) rfl (Steps.refl _)) ?_
  show own_Go p e below _ (s₁.setTop (mkF m 3 #[.val (.int c1), .val (.int c1)] [(.int c1)]))
  refine own_go (XS.bipush X0.here hx rfl (hb hby own_reference_3) (Steps.refl _)) ?_
  show own_Go p e below _ (s₁.setTop (mkF m 5 #[.val (.int c1), .val (.int c1)] [(.int (32 : Int32)), (.int c1)]))
  by_cases hc5 : (32 : Int32) < c1
  · refine own_go (XS.icmpNo X0.here hx rfl (hb hby own_reference_5) rfl (tlt hc5).2.2.2 (Steps.refl _)) ?_
    show own_Go p e below _ (s₁.setTop (mkF m 8 #[.val (.int c1), .val (.int c1)] []))
    refine own_go (XS.iconst X0.here hx rfl (hb hby own_reference_8) (Steps.refl _)) ?_
    show own_Go p e below _ (s₁.setTop (mkF m 9 #[.val (.int c1), .val (.int c1)] [(.int (0 : Int32))]))
    exact own_retZ X0 hx hlk e0 Bd.returns (hb hby own_reference_9) (Or.inl rfl) ⟨congrArg (fun u => some (Value.int u)) ((own_b_f (by simp [hc5])).symm), rfl, rfl⟩ (by decide) (by decide)
  · refine own_go (XS.icmpYes X0.here hx rfl (pc0 := 5) (pc' := 10) rfl (hb hby own_reference_5) rfl (flt hc5).2.2.2 (by decide) (by decide) (Steps.refl _)) ?_
    show own_Go p e below _ (s₁.setTop (mkF m 10 #[.val (.int c1), .val (.int c1)] []))
    refine own_go (X0.ldc2Long hx hown (mvT hZ (hw _ (List.mem_of_getElem? (i := 9) rfl))) (g := (mkF m 10 #[.val (.int c1), .val (.int c1)] [])) rfl (hb hby own_reference_10) _ (Steps.refl _)) ?_
    show own_Go p e below _ (s₁.setTop (mkF m 13 #[.val (.int c1), .val (.int c1)] [(.long (4294977024 : Int64))]))
    refine own_go (XS.iloadN X0.here hx rfl (hb hby own_reference_13) rfl (Steps.refl _)) ?_
    show own_Go p e below _ (s₁.setTop (mkF m 14 #[.val (.int c1), .val (.int c1)] [(.int c1), (.long (4294977024 : Int64))]))
    refine own_go (XS.lushr X0.here hx rfl (hb hby own_reference_14) rfl (Steps.refl _)) ?_
    show own_Go p e below _ (s₁.setTop (mkF m 15 #[.val (.int c1), .val (.int c1)] [(.long (((4294977024 : Int64).toUInt64 >>> (c1 &&& 0x3f).toInt64.toUInt64).toInt64))]))
    refine own_go (XS.lconst X0.here hx rfl (hb hby own_reference_15) (Steps.refl _)) ?_
    show own_Go p e below _ (s₁.setTop (mkF m 16 #[.val (.int c1), .val (.int c1)] [(.long (1 : Int64)), (.long (((4294977024 : Int64).toUInt64 >>> (c1 &&& 0x3f).toInt64.toUInt64).toInt64))]))
    refine own_go (XS.land X0.here hx rfl (hb hby own_reference_16) rfl (Steps.refl _)) ?_
    show own_Go p e below _ (s₁.setTop (mkF m 17 #[.val (.int c1), .val (.int c1)] [(.long (own_bit c1))]))
    refine own_go (XS.lconst X0.here hx rfl (hb hby own_reference_17) (Steps.refl _)) ?_
    show own_Go p e below _ (s₁.setTop (mkF m 18 #[.val (.int c1), .val (.int c1)] [(.long (0 : Int64)), (.long (own_bit c1))]))
    refine own_go (XS.lcmp X0.here hx rfl (hb hby own_reference_18) rfl (Steps.refl _)) ?_
    show own_Go p e below _ (s₁.setTop (mkF m 19 #[.val (.int c1), .val (.int c1)] [(.int (lcmpW (own_bit c1) (0 : Int64)))]))
    by_cases hc19 : (own_bit c1) = (0 : Int64)
    · refine own_go (XS.ifYes X0.here hx rfl (pc0 := 19) (pc' := 26) rfl (hb hby own_reference_19) rfl (own_teqJ hc19).1 (by decide) (by decide) (Steps.refl _)) ?_
      show own_Go p e below _ (s₁.setTop (mkF m 26 #[.val (.int c1), .val (.int c1)] []))
      refine own_go (XS.iconst X0.here hx rfl (hb hby own_reference_26) (Steps.refl _)) ?_
      show own_Go p e below _ (s₁.setTop (mkF m 27 #[.val (.int c1), .val (.int c1)] [(.int (0 : Int32))]))
      exact own_retZ X0 hx hlk e0 Bd.returns (hb hby own_reference_27) (Or.inl rfl) ⟨congrArg (fun u => some (Value.int u)) ((own_b_f (by simp [hc5, hc19])).symm), rfl, rfl⟩ (by decide) (by decide)
    · refine own_go (XS.ifNo X0.here hx rfl (hb hby own_reference_19) rfl (own_feqJ hc19).1 (Steps.refl _)) ?_
      show own_Go p e below _ (s₁.setTop (mkF m 22 #[.val (.int c1), .val (.int c1)] []))
      refine own_go (XS.iconst X0.here hx rfl (hb hby own_reference_22) (Steps.refl _)) ?_
      show own_Go p e below _ (s₁.setTop (mkF m 23 #[.val (.int c1), .val (.int c1)] [(.int (1 : Int32))]))
      refine own_go (XS.goto X0.here hx rfl (pc0 := 23) (pc' := 27) rfl (hb hby own_reference_23) (by decide) (by decide) (Steps.refl _)) ?_
      show own_Go p e below _ (s₁.setTop (mkF m 27 #[.val (.int c1), .val (.int c1)] [(.int (1 : Int32))]))
      exact own_retZ X0 hx hlk e0 Bd.returns (hb hby own_reference_27) (Or.inr rfl) ⟨congrArg (fun u => some (Value.int u)) ((own_b_t (by simp [hc5, hc19])).symm), rfl, rfl⟩ (by decide) (by decide)
theorem own_f6 : parseMethodDescriptor "(C)Z" = some ⟨[.char], some .boolean⟩ := by decide +kernel
theorem own_f7 (m : MethodId) (x0 : Int32) (x1 : Int32) : entryFrame m #[(.int x0), (.int x1)] maxLocals = mkF m 0 #[.val (.int x0), .val (.int x1), .unset, .unset, .unset] [] := by first | (simp [entryFrame, mkF, argsToLocals, Value.category, maxLocals]; done) | rfl
set_option maxRecDepth 65536 in
set_option maxHeartbeats 40000000 in
theorem rm_law (l : Launch) (Z : State) (a0 : Array Value) (hw : ∀ d ∈ tables_1, d.before a0 Z = true) (p1 p2 : Int32) (h0 : Heap) (n0 : Nat) (Z0 : n0 ≤ h0.size)  :
    own_MetL l Z (#[(.int p1), (.int p2)]) h0 (fun v h L => v = some (.int 1) ∧ Fr n0 L) := by
  refine MetFree.of_bodySF (plainFor_of_name own_f4) hisR ?_
  intro p e s m args below meth c s₁ Bd hml0 hP hK
  obtain ⟨rfl, hZ, hh⟩ := hP
  have hx := Bd.exec
  have hby := Bd.bytes
  have hlk : meth.locks = false := Bd.notSynchronized
  have hml : c.maxLocals = 5 := hml0
  have hown : s.vm.findClass "org/responsa/io/StartTagIsWhitespacePinLaw" = some m.cls := findClass_of_methodNamed Bd.named
  have hnm := (name_of_methodNamed Bd.named Bd.method).1
  have X0 : Stand p l e room_1 s m #[(.int p1), (.int p2)] below meth c s₁ [] 0 0 := Stand.of_body Bd
  have e0 : s₁.heap = h0 := by rw [← hh, Bd.state]; rfl
  show own_Go p e below (own_G s (fun v h L => v = some (.int 1) ∧ Fr n0 L) room_1.cells room_1.slots) (s₁.setTop (entryFrame m #[(.int p1), (.int p2)] maxLocals))
  rw [own_f7]
  show own_Go p e below _ (s₁.setTop (mkF m 0 #[.val (.int p1), .val (.int p2), .unset, .unset, .unset] []))
  refine own_go (XS.iconst X0.here hx rfl (hb hby at_0) (Steps.refl _)) ?_
  show own_Go p e below _ (s₁.setTop (mkF m 1 #[.val (.int p1), .val (.int p2), .unset, .unset, .unset] [(.int (4 : Int32))]))
  obtain ⟨T1, h1, c1, b1, g1, X1, e1, E1, V1', st1⟩ := own_newP X0 hx hZ (hw _ (List.mem_of_getElem? (i := 0) rfl)) e0 (g := (mkF m 1 #[.val (.int p1), .val (.int p2), .unset, .unset, .unset] [(.int (4 : Int32))])) rfl (hb hby at_1) rfl (by decide) (cap := 4) (by decide) (by decide) (by decide) (by decide)
  have V1 : Arv Z h1 b1 c1 .char (4 : Int32) [(.int (0 : Int32)), (.int (0 : Int32)), (.int (0 : Int32)), (.int (0 : Int32))] (.int (0 : Int32)) := V1'
  have ge_b1 : n0 ≤ b1 := Nat.le_trans Z0 (Nat.le_of_eq g1.symm)
  have Zl1 : n0 ≤ h1.size := Nat.le_trans Z0 E1.1
  refine own_go st1 ?_
  show own_Go p e below _ (T1.setTop (mkF m 3 #[.val (.int p1), .val (.int p2), .unset, .unset, .unset] [(.ref b1)]))
  refine own_go (XS.dup X1.here hx rfl (hb hby at_3) rfl rfl (Steps.refl _)) ?_
  show own_Go p e below _ (T1.setTop (mkF m 4 #[.val (.int p1), .val (.int p2), .unset, .unset, .unset] [(.ref b1), (.ref b1)]))
  refine own_go (XS.iconst X1.here hx rfl (hb hby at_4) (Steps.refl _)) ?_
  show own_Go p e below _ (T1.setTop (mkF m 5 #[.val (.int p1), .val (.int p2), .unset, .unset, .unset] [(.int (0 : Int32)), (.ref b1), (.ref b1)]))
  refine own_go (XS.bipush X1.here hx rfl (hb hby at_5) (Steps.refl _)) ?_
  show own_Go p e below _ (T1.setTop (mkF m 7 #[.val (.int p1), .val (.int p2), .unset, .unset, .unset] [(.int (32 : Int32)), (.int (0 : Int32)), (.ref b1), (.ref b1)]))
  obtain ⟨T2, h2, X2, e2, W2, V2', st2⟩ := own_stC X1 hx hZ e1 V1 (by decide) (by decide) (g := (mkF m 7 #[.val (.int p1), .val (.int p2), .unset, .unset, .unset] [(.int (32 : Int32)), (.int (0 : Int32)), (.ref b1), (.ref b1)])) rfl rfl (hb hby at_7) (i := 0) rfl (by decide)
  have V2 : Arv Z h2 b1 c1 .char (4 : Int32) [(.int (nar .char (32 : Int32))), (.int (0 : Int32)), (.int (0 : Int32)), (.int (0 : Int32))] (.int (0 : Int32)) := V2'
  have N2 := Fr.snoc X2 (Fr.nil n0) ge_b1
  have Zl2 : n0 ≤ h2.size := Nat.le_trans Zl1 (Keep.of_wr W2).1
  refine own_go st2 ?_
  show own_Go p e below _ (T2.setTop (mkF m 8 #[.val (.int p1), .val (.int p2), .unset, .unset, .unset] [(.ref b1)]))
  refine own_go (XS.dup X2.here hx rfl (hb hby at_8) rfl rfl (Steps.refl _)) ?_
  show own_Go p e below _ (T2.setTop (mkF m 9 #[.val (.int p1), .val (.int p2), .unset, .unset, .unset] [(.ref b1), (.ref b1)]))
  refine own_go (XS.iconst X2.here hx rfl (hb hby at_9) (Steps.refl _)) ?_
  show own_Go p e below _ (T2.setTop (mkF m 10 #[.val (.int p1), .val (.int p2), .unset, .unset, .unset] [(.int (1 : Int32)), (.ref b1), (.ref b1)]))
  refine own_go (XS.bipush X2.here hx rfl (hb hby at_10) (Steps.refl _)) ?_
  show own_Go p e below _ (T2.setTop (mkF m 12 #[.val (.int p1), .val (.int p2), .unset, .unset, .unset] [(.int (9 : Int32)), (.int (1 : Int32)), (.ref b1), (.ref b1)]))
  obtain ⟨T3, h3, X3, e3, W3, V3', st3⟩ := own_stC X2 hx hZ e2 V2 (by decide) (by decide) (g := (mkF m 12 #[.val (.int p1), .val (.int p2), .unset, .unset, .unset] [(.int (9 : Int32)), (.int (1 : Int32)), (.ref b1), (.ref b1)])) rfl rfl (hb hby at_12) (i := 1) rfl (by decide)
  have V3 : Arv Z h3 b1 c1 .char (4 : Int32) [(.int (nar .char (32 : Int32))), (.int (nar .char (9 : Int32))), (.int (0 : Int32)), (.int (0 : Int32))] (.int (0 : Int32)) := V3'
  have N3 := Fr.snoc X3 N2 ge_b1
  have Zl3 : n0 ≤ h3.size := Nat.le_trans Zl2 (Keep.of_wr W3).1
  refine own_go st3 ?_
  show own_Go p e below _ (T3.setTop (mkF m 13 #[.val (.int p1), .val (.int p2), .unset, .unset, .unset] [(.ref b1)]))
  refine own_go (XS.dup X3.here hx rfl (hb hby at_13) rfl rfl (Steps.refl _)) ?_
  show own_Go p e below _ (T3.setTop (mkF m 14 #[.val (.int p1), .val (.int p2), .unset, .unset, .unset] [(.ref b1), (.ref b1)]))
  refine own_go (XS.iconst X3.here hx rfl (hb hby at_14) (Steps.refl _)) ?_
  show own_Go p e below _ (T3.setTop (mkF m 15 #[.val (.int p1), .val (.int p2), .unset, .unset, .unset] [(.int (2 : Int32)), (.ref b1), (.ref b1)]))
  refine own_go (XS.bipush X3.here hx rfl (hb hby at_15) (Steps.refl _)) ?_
  show own_Go p e below _ (T3.setTop (mkF m 17 #[.val (.int p1), .val (.int p2), .unset, .unset, .unset] [(.int (13 : Int32)), (.int (2 : Int32)), (.ref b1), (.ref b1)]))
  obtain ⟨T4, h4, X4, e4, W4, V4', st4⟩ := own_stC X3 hx hZ e3 V3 (by decide) (by decide) (g := (mkF m 17 #[.val (.int p1), .val (.int p2), .unset, .unset, .unset] [(.int (13 : Int32)), (.int (2 : Int32)), (.ref b1), (.ref b1)])) rfl rfl (hb hby at_17) (i := 2) rfl (by decide)
  have V4 : Arv Z h4 b1 c1 .char (4 : Int32) [(.int (nar .char (32 : Int32))), (.int (nar .char (9 : Int32))), (.int (nar .char (13 : Int32))), (.int (0 : Int32))] (.int (0 : Int32)) := V4'
  have N4 := Fr.snoc X4 N3 ge_b1
  have Zl4 : n0 ≤ h4.size := Nat.le_trans Zl3 (Keep.of_wr W4).1
  refine own_go st4 ?_
  show own_Go p e below _ (T4.setTop (mkF m 18 #[.val (.int p1), .val (.int p2), .unset, .unset, .unset] [(.ref b1)]))
  refine own_go (XS.dup X4.here hx rfl (hb hby at_18) rfl rfl (Steps.refl _)) ?_
  show own_Go p e below _ (T4.setTop (mkF m 19 #[.val (.int p1), .val (.int p2), .unset, .unset, .unset] [(.ref b1), (.ref b1)]))
  refine own_go (XS.iconst X4.here hx rfl (hb hby at_19) (Steps.refl _)) ?_
  show own_Go p e below _ (T4.setTop (mkF m 20 #[.val (.int p1), .val (.int p2), .unset, .unset, .unset] [(.int (3 : Int32)), (.ref b1), (.ref b1)]))
  refine own_go (XS.bipush X4.here hx rfl (hb hby at_20) (Steps.refl _)) ?_
  show own_Go p e below _ (T4.setTop (mkF m 22 #[.val (.int p1), .val (.int p2), .unset, .unset, .unset] [(.int (10 : Int32)), (.int (3 : Int32)), (.ref b1), (.ref b1)]))
  obtain ⟨T5, h5, X5, e5, W5, V5', st5⟩ := own_stC X4 hx hZ e4 V4 (by decide) (by decide) (g := (mkF m 22 #[.val (.int p1), .val (.int p2), .unset, .unset, .unset] [(.int (10 : Int32)), (.int (3 : Int32)), (.ref b1), (.ref b1)])) rfl rfl (hb hby at_22) (i := 3) rfl (by decide)
  have V5 : Arv Z h5 b1 c1 .char (4 : Int32) [(.int (nar .char (32 : Int32))), (.int (nar .char (9 : Int32))), (.int (nar .char (13 : Int32))), (.int (nar .char (10 : Int32)))] (.int (0 : Int32)) := V5'
  have N5 := Fr.snoc X5 N4 ge_b1
  have Zl5 : n0 ≤ h5.size := Nat.le_trans Zl4 (Keep.of_wr W5).1
  refine own_go st5 ?_
  show own_Go p e below _ (T5.setTop (mkF m 23 #[.val (.int p1), .val (.int p2), .unset, .unset, .unset] [(.ref b1)]))
  refine own_go (XS.astoreN X5.here hx rfl (hb hby at_23) rfl rfl (l' := #[.val (.int p1), .val (.int p2), .val (.ref b1), .unset, .unset]) rfl (Steps.refl _)) ?_
  show own_Go p e below _ (T5.setTop (mkF m 24 #[.val (.int p1), .val (.int p2), .val (.ref b1), .unset, .unset] []))
  refine own_go (XS.iloadN X5.here hx rfl (hb hby at_24) rfl (Steps.refl _)) ?_
  show own_Go p e below _ (T5.setTop (mkF m 25 #[.val (.int p1), .val (.int p2), .val (.ref b1), .unset, .unset] [(.int p2)]))
  refine own_go (XS.bipush X5.here hx rfl (hb hby at_25) (Steps.refl _)) ?_
  show own_Go p e below _ (T5.setTop (mkF m 27 #[.val (.int p1), .val (.int p2), .val (.ref b1), .unset, .unset] [(.int (7 : Int32)), (.int p2)]))
  refine own_go (XS.iand X5.here hx rfl (hb hby at_27) rfl (Steps.refl _)) ?_
  show own_Go p e below _ (T5.setTop (mkF m 28 #[.val (.int p1), .val (.int p2), .val (.ref b1), .unset, .unset] [(.int (p2 &&& (7 : Int32)))]))
  refine own_go (XS.istoreN X5.here hx rfl (hb hby at_28) rfl (l' := #[.val (.int p1), .val (.int p2), .val (.ref b1), .val (.int (p2 &&& (7 : Int32))), .unset]) rfl (Steps.refl _)) ?_
  show own_Go p e below _ (T5.setTop (mkF m 29 #[.val (.int p1), .val (.int p2), .val (.ref b1), .val (.int (p2 &&& (7 : Int32))), .unset] []))
  refine own_go (XS.iloadN X5.here hx rfl (hb hby at_29) rfl (Steps.refl _)) ?_
  show own_Go p e below _ (T5.setTop (mkF m 30 #[.val (.int p1), .val (.int p2), .val (.ref b1), .val (.int (p2 &&& (7 : Int32))), .unset] [(.int (p2 &&& (7 : Int32)))]))
  refine own_go (XS.iconst X5.here hx rfl (hb hby at_30) (Steps.refl _)) ?_
  show own_Go p e below _ (T5.setTop (mkF m 31 #[.val (.int p1), .val (.int p2), .val (.ref b1), .val (.int (p2 &&& (7 : Int32))), .unset] [(.int (4 : Int32)), (.int (p2 &&& (7 : Int32)))]))
  suffices J : ∀ c1 : Int32, (0 ≤ c1.toInt ∧ c1.toInt ≤ 65535) → own_Go p e below (own_G s (fun v h L => v = some (.int 1) ∧ Fr n0 L) room_1.cells room_1.slots) (T5.setTop (mkF m 49 #[.val (.int p1), .val (.int p2), .val (.ref b1), .val (.int (p2 &&& (7 : Int32))), .val (.int c1)] [])) by
    by_cases hc : (p2 &&& (7 : Int32)) < (4 : Int32)
    · refine own_go (XS.icmpNo X5.here hx rfl (hb hby at_31) rfl (tlt hc).2.1 (Steps.refl _)) ?_
      show own_Go p e below _ (T5.setTop (mkF m 34 #[.val (.int p1), .val (.int p2), .val (.ref b1), .val (.int (p2 &&& (7 : Int32))), .unset] []))
      rcases own_k4 p2 hc with hk | hk | hk | hk
      · rw [hk]
        show own_Go p e below _ (T5.setTop (mkF m 34 #[.val (.int p1), .val (.int p2), .val (.ref b1), .val (.int (0 : Int32)), .unset] []))
        refine own_go (XS.aloadN X5.here hx rfl (hb hby at_34) rfl rfl (Steps.refl _)) ?_
        show own_Go p e below _ (T5.setTop (mkF m 35 #[.val (.int p1), .val (.int p2), .val (.ref b1), .val (.int (0 : Int32)), .unset] [(.ref b1)]))
        refine own_go (XS.iloadN X5.here hx rfl (hb hby at_35) rfl (Steps.refl _)) ?_
        show own_Go p e below _ (T5.setTop (mkF m 36 #[.val (.int p1), .val (.int p2), .val (.ref b1), .val (.int (0 : Int32)), .unset] [(.int (0 : Int32)), (.ref b1)]))
        refine own_go (own_ldC X5 hx hZ e5 V5 (by decide) (by decide) (v := (nar .char (32 : Int32))) rfl (g := (mkF m 36 #[.val (.int p1), .val (.int p2), .val (.ref b1), .val (.int (0 : Int32)), .unset] [(.int (0 : Int32)), (.ref b1)])) rfl rfl (hb hby at_36)) ?_
        show own_Go p e below _ (T5.setTop (mkF m 37 #[.val (.int p1), .val (.int p2), .val (.ref b1), .val (.int (0 : Int32)), .unset] [(.int (nar .char (32 : Int32)))]))
        refine own_go (XS.istore X5.here hx rfl (hb hby at_37) rfl (l' := #[.val (.int p1), .val (.int p2), .val (.ref b1), .val (.int (0 : Int32)), .val (.int (nar .char (32 : Int32)))]) rfl (Steps.refl _)) ?_
        show own_Go p e below _ (T5.setTop (mkF m 39 #[.val (.int p1), .val (.int p2), .val (.ref b1), .val (.int (0 : Int32)), .val (.int (nar .char (32 : Int32)))] []))
        refine own_go (XS.goto X5.here hx rfl (pc0 := 39) (pc' := 49) rfl (hb hby at_39) (by decide) (by decide) (Steps.refl _)) ?_
        show own_Go p e below _ (T5.setTop (mkF m 49 #[.val (.int p1), .val (.int p2), .val (.ref b1), .val (.int (0 : Int32)), .val (.int (nar .char (32 : Int32)))] []))
        rw [hk] at J
        exact J (nar .char (32 : Int32)) (by decide)
      · rw [hk]
        show own_Go p e below _ (T5.setTop (mkF m 34 #[.val (.int p1), .val (.int p2), .val (.ref b1), .val (.int (1 : Int32)), .unset] []))
        refine own_go (XS.aloadN X5.here hx rfl (hb hby at_34) rfl rfl (Steps.refl _)) ?_
        show own_Go p e below _ (T5.setTop (mkF m 35 #[.val (.int p1), .val (.int p2), .val (.ref b1), .val (.int (1 : Int32)), .unset] [(.ref b1)]))
        refine own_go (XS.iloadN X5.here hx rfl (hb hby at_35) rfl (Steps.refl _)) ?_
        show own_Go p e below _ (T5.setTop (mkF m 36 #[.val (.int p1), .val (.int p2), .val (.ref b1), .val (.int (1 : Int32)), .unset] [(.int (1 : Int32)), (.ref b1)]))
        refine own_go (own_ldC X5 hx hZ e5 V5 (by decide) (by decide) (v := (nar .char (9 : Int32))) rfl (g := (mkF m 36 #[.val (.int p1), .val (.int p2), .val (.ref b1), .val (.int (1 : Int32)), .unset] [(.int (1 : Int32)), (.ref b1)])) rfl rfl (hb hby at_36)) ?_
        show own_Go p e below _ (T5.setTop (mkF m 37 #[.val (.int p1), .val (.int p2), .val (.ref b1), .val (.int (1 : Int32)), .unset] [(.int (nar .char (9 : Int32)))]))
        refine own_go (XS.istore X5.here hx rfl (hb hby at_37) rfl (l' := #[.val (.int p1), .val (.int p2), .val (.ref b1), .val (.int (1 : Int32)), .val (.int (nar .char (9 : Int32)))]) rfl (Steps.refl _)) ?_
        show own_Go p e below _ (T5.setTop (mkF m 39 #[.val (.int p1), .val (.int p2), .val (.ref b1), .val (.int (1 : Int32)), .val (.int (nar .char (9 : Int32)))] []))
        refine own_go (XS.goto X5.here hx rfl (pc0 := 39) (pc' := 49) rfl (hb hby at_39) (by decide) (by decide) (Steps.refl _)) ?_
        show own_Go p e below _ (T5.setTop (mkF m 49 #[.val (.int p1), .val (.int p2), .val (.ref b1), .val (.int (1 : Int32)), .val (.int (nar .char (9 : Int32)))] []))
        rw [hk] at J
        exact J (nar .char (9 : Int32)) (by decide)
      · rw [hk]
        show own_Go p e below _ (T5.setTop (mkF m 34 #[.val (.int p1), .val (.int p2), .val (.ref b1), .val (.int (2 : Int32)), .unset] []))
        refine own_go (XS.aloadN X5.here hx rfl (hb hby at_34) rfl rfl (Steps.refl _)) ?_
        show own_Go p e below _ (T5.setTop (mkF m 35 #[.val (.int p1), .val (.int p2), .val (.ref b1), .val (.int (2 : Int32)), .unset] [(.ref b1)]))
        refine own_go (XS.iloadN X5.here hx rfl (hb hby at_35) rfl (Steps.refl _)) ?_
        show own_Go p e below _ (T5.setTop (mkF m 36 #[.val (.int p1), .val (.int p2), .val (.ref b1), .val (.int (2 : Int32)), .unset] [(.int (2 : Int32)), (.ref b1)]))
        refine own_go (own_ldC X5 hx hZ e5 V5 (by decide) (by decide) (v := (nar .char (13 : Int32))) rfl (g := (mkF m 36 #[.val (.int p1), .val (.int p2), .val (.ref b1), .val (.int (2 : Int32)), .unset] [(.int (2 : Int32)), (.ref b1)])) rfl rfl (hb hby at_36)) ?_
        show own_Go p e below _ (T5.setTop (mkF m 37 #[.val (.int p1), .val (.int p2), .val (.ref b1), .val (.int (2 : Int32)), .unset] [(.int (nar .char (13 : Int32)))]))
        refine own_go (XS.istore X5.here hx rfl (hb hby at_37) rfl (l' := #[.val (.int p1), .val (.int p2), .val (.ref b1), .val (.int (2 : Int32)), .val (.int (nar .char (13 : Int32)))]) rfl (Steps.refl _)) ?_
        show own_Go p e below _ (T5.setTop (mkF m 39 #[.val (.int p1), .val (.int p2), .val (.ref b1), .val (.int (2 : Int32)), .val (.int (nar .char (13 : Int32)))] []))
        refine own_go (XS.goto X5.here hx rfl (pc0 := 39) (pc' := 49) rfl (hb hby at_39) (by decide) (by decide) (Steps.refl _)) ?_
        show own_Go p e below _ (T5.setTop (mkF m 49 #[.val (.int p1), .val (.int p2), .val (.ref b1), .val (.int (2 : Int32)), .val (.int (nar .char (13 : Int32)))] []))
        rw [hk] at J
        exact J (nar .char (13 : Int32)) (by decide)
      · rw [hk]
        show own_Go p e below _ (T5.setTop (mkF m 34 #[.val (.int p1), .val (.int p2), .val (.ref b1), .val (.int (3 : Int32)), .unset] []))
        refine own_go (XS.aloadN X5.here hx rfl (hb hby at_34) rfl rfl (Steps.refl _)) ?_
        show own_Go p e below _ (T5.setTop (mkF m 35 #[.val (.int p1), .val (.int p2), .val (.ref b1), .val (.int (3 : Int32)), .unset] [(.ref b1)]))
        refine own_go (XS.iloadN X5.here hx rfl (hb hby at_35) rfl (Steps.refl _)) ?_
        show own_Go p e below _ (T5.setTop (mkF m 36 #[.val (.int p1), .val (.int p2), .val (.ref b1), .val (.int (3 : Int32)), .unset] [(.int (3 : Int32)), (.ref b1)]))
        refine own_go (own_ldC X5 hx hZ e5 V5 (by decide) (by decide) (v := (nar .char (10 : Int32))) rfl (g := (mkF m 36 #[.val (.int p1), .val (.int p2), .val (.ref b1), .val (.int (3 : Int32)), .unset] [(.int (3 : Int32)), (.ref b1)])) rfl rfl (hb hby at_36)) ?_
        show own_Go p e below _ (T5.setTop (mkF m 37 #[.val (.int p1), .val (.int p2), .val (.ref b1), .val (.int (3 : Int32)), .unset] [(.int (nar .char (10 : Int32)))]))
        refine own_go (XS.istore X5.here hx rfl (hb hby at_37) rfl (l' := #[.val (.int p1), .val (.int p2), .val (.ref b1), .val (.int (3 : Int32)), .val (.int (nar .char (10 : Int32)))]) rfl (Steps.refl _)) ?_
        show own_Go p e below _ (T5.setTop (mkF m 39 #[.val (.int p1), .val (.int p2), .val (.ref b1), .val (.int (3 : Int32)), .val (.int (nar .char (10 : Int32)))] []))
        refine own_go (XS.goto X5.here hx rfl (pc0 := 39) (pc' := 49) rfl (hb hby at_39) (by decide) (by decide) (Steps.refl _)) ?_
        show own_Go p e below _ (T5.setTop (mkF m 49 #[.val (.int p1), .val (.int p2), .val (.ref b1), .val (.int (3 : Int32)), .val (.int (nar .char (10 : Int32)))] []))
        rw [hk] at J
        exact J (nar .char (10 : Int32)) (by decide)
    · refine own_go (XS.icmpYes X5.here hx rfl (pc0 := 31) (pc' := 42) rfl (hb hby at_31) rfl (flt hc).2.1 (by decide) (by decide) (Steps.refl _)) ?_
      show own_Go p e below _ (T5.setTop (mkF m 42 #[.val (.int p1), .val (.int p2), .val (.ref b1), .val (.int (p2 &&& (7 : Int32))), .unset] []))
      refine own_go (XS.iloadN X5.here hx rfl (hb hby at_42) rfl (Steps.refl _)) ?_
      show own_Go p e below _ (T5.setTop (mkF m 43 #[.val (.int p1), .val (.int p2), .val (.ref b1), .val (.int (p2 &&& (7 : Int32))), .unset] [(.int p1)]))
      refine own_go (X5.ldcInt hx hown (mvT hZ (hw _ (List.mem_of_getElem? (i := 10) rfl))) (g := (mkF m 43 #[.val (.int p1), .val (.int p2), .val (.ref b1), .val (.int (p2 &&& (7 : Int32))), .unset] [(.int p1)])) rfl (hb hby at_43) _ (Steps.refl _)) ?_
      show own_Go p e below _ (T5.setTop (mkF m 45 #[.val (.int p1), .val (.int p2), .val (.ref b1), .val (.int (p2 &&& (7 : Int32))), .unset] [(.int (65535 : Int32)), (.int p1)]))
      refine own_go (XS.iand X5.here hx rfl (hb hby at_45) rfl (Steps.refl _)) ?_
      show own_Go p e below _ (T5.setTop (mkF m 46 #[.val (.int p1), .val (.int p2), .val (.ref b1), .val (.int (p2 &&& (7 : Int32))), .unset] [(.int (p1 &&& (65535 : Int32)))]))
      refine own_go (XS.i2c X5.here hx rfl (hb hby at_46) rfl (Steps.refl _)) ?_
      show own_Go p e below _ (T5.setTop (mkF m 47 #[.val (.int p1), .val (.int p2), .val (.ref b1), .val (.int (p2 &&& (7 : Int32))), .unset] [(.int ((p1 &&& (65535 : Int32)).toUInt32.toUInt16.toUInt32.toInt32))]))
      refine own_go (XS.istore X5.here hx rfl (hb hby at_47) rfl (l' := #[.val (.int p1), .val (.int p2), .val (.ref b1), .val (.int (p2 &&& (7 : Int32))), .val (.int ((p1 &&& (65535 : Int32)).toUInt32.toUInt16.toUInt32.toInt32))]) rfl (Steps.refl _)) ?_
      show own_Go p e below _ (T5.setTop (mkF m 49 #[.val (.int p1), .val (.int p2), .val (.ref b1), .val (.int (p2 &&& (7 : Int32))), .val (.int ((p1 &&& (65535 : Int32)).toUInt32.toUInt16.toUInt32.toInt32))] []))
      exact J _ (own_ch _)
  intro c1 hc1
  show own_Go p e below _ (T5.setTop (mkF m 49 #[.val (.int p1), .val (.int p2), .val (.ref b1), .val (.int (p2 &&& (7 : Int32))), .val (.int c1)] []))
  refine own_go (XS.iload X5.here hx rfl (hb hby at_49) rfl (Steps.refl _)) ?_
  show own_Go p e below _ (T5.setTop (mkF m 51 #[.val (.int p1), .val (.int p2), .val (.ref b1), .val (.int (p2 &&& (7 : Int32))), .val (.int c1)] [(.int c1)]))
  obtain ⟨_, _, ⟨T6, L6, k6, n6⟩, -, X6, ⟨Lc6, hQ6, l6, y6, z6⟩, st6⟩ := Jvm.LawKit.callS X5 hx (y := (⟨"org/responsa/io/StartTag", "isWhitespace", "(C)Z"⟩ : MethodName)) hown (mvT hZ (hw _ (List.mem_of_getElem? (i := 1) rfl))) (mvT hZ (hw _ (List.mem_of_getElem? (i := 2) rfl))) (mvT hZ (hw _ (List.mem_of_getElem? (i := 3) rfl))) (mvT hZ (hw _ (List.mem_of_getElem? (i := 4) rfl))) (by decide) (own_pays (W := 0) (rm_ws l Z a0 hw c1 h5 n0 Zl5) hZ (hw _ (List.mem_of_getElem? (i := 4) rfl)) (hw _ (List.mem_of_getElem? (i := 3) rfl)) (by decide) (by decide)) (g := (mkF m 51 #[.val (.int p1), .val (.int p2), .val (.ref b1), .val (.int (p2 &&& (7 : Int32))), .val (.int c1)] [(.int c1)])) rfl (by rw [hml]; rfl) (argsL := [(.int c1)]) (rest := []) (lenOf own_f6 rfl) rfl (by show 2 * 0 + _ ≤ _; exact Nat.le_of_eq rfl) (hb hby at_51) (fun _ _ => ⟨rfl, e5, (by decide : 1 + 0 ≤ _), (by decide : 4 + 0 ≤ _)⟩)
  dsimp only [Pt.U, Pt.locs, Pt.cells, Pt.slots] at X6 l6 y6 z6 st6 hQ6
  subst l6 y6 z6
  obtain ⟨rfl, rfl, e6⟩ := hQ6
  try rw [List.append_nil] at X6
  refine own_go (st6 _ (Steps.refl _)) ?_
  show own_Go p e below _ (T6.setTop (mkF m 54 #[.val (.int p1), .val (.int p2), .val (.ref b1), .val (.int (p2 &&& (7 : Int32))), .val (.int c1)] [(.int (own_ws c1))]))
  refine own_go (XS.iload X6.here hx rfl (hb hby at_54) rfl (Steps.refl _)) ?_
  show own_Go p e below _ (T6.setTop (mkF m 56 #[.val (.int p1), .val (.int p2), .val (.ref b1), .val (.int (p2 &&& (7 : Int32))), .val (.int c1)] [(.int c1), (.int (own_ws c1))]))
  obtain ⟨_, _, ⟨T7, L7, k7, n7⟩, -, X7, ⟨Lc7, hQ7, l7, y7, z7⟩, st7⟩ := Jvm.LawKit.callS X6 hx (y := (⟨"org/responsa/io/StartTagIsWhitespacePinLaw", "reference", "(C)Z"⟩ : MethodName)) hown (mvT hZ (hw _ (List.mem_of_getElem? (i := 5) rfl))) (mvT hZ (hw _ (List.mem_of_getElem? (i := 6) rfl))) (mvT hZ (hw _ (List.mem_of_getElem? (i := 7) rfl))) (mvT hZ (hw _ (List.mem_of_getElem? (i := 8) rfl))) (by decide) (own_pays (W := 1) (rm_ref l Z a0 hw c1 h5 n0 Zl5) hZ (hw _ (List.mem_of_getElem? (i := 8) rfl)) (hw _ (List.mem_of_getElem? (i := 7) rfl)) (by decide) (by decide)) (g := (mkF m 56 #[.val (.int p1), .val (.int p2), .val (.ref b1), .val (.int (p2 &&& (7 : Int32))), .val (.int c1)] [(.int c1), (.int (own_ws c1))])) rfl (by rw [hml]; rfl) (argsL := [(.int c1)]) (rest := [(.int (own_ws c1))]) (lenOf own_f6 rfl) rfl (by show 2 * 0 + _ ≤ _; exact Nat.le_of_eq rfl) (hb hby at_56) (fun _ _ => ⟨rfl, e6, (by decide : 1 + 0 ≤ _), (by decide : 4 + 0 ≤ _)⟩)
  dsimp only [Pt.U, Pt.locs, Pt.cells, Pt.slots] at X7 l7 y7 z7 st7 hQ7
  subst l7 y7 z7
  obtain ⟨rfl, rfl, e7⟩ := hQ7
  try rw [List.append_nil] at X7
  refine own_go (st7 _ (Steps.refl _)) ?_
  show own_Go p e below _ (T7.setTop (mkF m 59 #[.val (.int p1), .val (.int p2), .val (.ref b1), .val (.int (p2 &&& (7 : Int32))), .val (.int c1)] [(.int (own_ref c1)), (.int (own_ws c1))]))
  refine own_go (XS.icmpNo X7.here hx rfl (hb hby at_59) rfl (teq (own_law c1 hc1)).2 (Steps.refl _)) ?_
  show own_Go p e below _ (T7.setTop (mkF m 62 #[.val (.int p1), .val (.int p2), .val (.ref b1), .val (.int (p2 &&& (7 : Int32))), .val (.int c1)] []))
  refine own_go (XS.iconst X7.here hx rfl (hb hby at_62) (Steps.refl _)) ?_
  show own_Go p e below _ (T7.setTop (mkF m 63 #[.val (.int p1), .val (.int p2), .val (.ref b1), .val (.int (p2 &&& (7 : Int32))), .val (.int c1)] [(.int (1 : Int32))]))
  refine own_go (XS.goto X7.here hx rfl (pc0 := 63) (pc' := 67) rfl (hb hby at_63) (by decide) (by decide) (Steps.refl _)) ?_
  show own_Go p e below _ (T7.setTop (mkF m 67 #[.val (.int p1), .val (.int p2), .val (.ref b1), .val (.int (p2 &&& (7 : Int32))), .val (.int c1)] [(.int (1 : Int32))]))
  exact own_retZ X7 hx hlk e7 Bd.returns (hb hby at_67) (Or.inr rfl) ⟨rfl, N5⟩ (by decide) (by decide)
set_option maxRecDepth 65536 in
set_option maxHeartbeats 40000000 in
theorem comes_1 {Post : Tables → Env → Array Value → State → Outcome → State → Prop} (hpost : ∀ tb e args s v u, (limb_1_1.after args s (.returned v) u = true ∧ limb_1_2.after args s (.returned v) u = true ∧ True) → FrameEnd s (.returned v) u (Jvm.fieldLocs frame_1_writes args s ++ Jvm.arrayLocs frame_1_arrays args s ++ Jvm.staticLocs frame_1_statics s) 16 128 → Post tb e args s (.returned v) u) :
    ArmFor flags0 classFile x code maxLocals ret World_1 tables_1 room_1 Calls_1 rest_1 Pre_1 Post := by
  intro l hfl _ _ p e ha hc hk s m args below hf hA hF happ hP
  obtain ⟨hcalls, hrest, hpre⟩ := hP
  obtain ⟨-, -, -, hnamed, -, -, -, hat⟩ := (Spec.applies_iff hf).mp happ
  obtain ⟨hg, hn⟩ := and_e (Cond.before_iff.mp (show (Jvm.Cond.and given_1 narrow_1).before args s = true from hpre))
  obtain ⟨gc, ga0⟩ := and_e hg
  obtain ⟨w0, w1, rfl⟩ : ∃ w0 w1 : Value, args = #[w0, w1] := by
    have hs : args.size = 2 := by simpa [Cond.value, given_1] using gc
    obtain ⟨L⟩ := args
    match L, hs with
    | [w0, w1], _ => exact ⟨w0, w1, rfl⟩
  have hw := fun d (hd : d ∈ tables_1) => atoms_spec (ws := Jvm.Cond.code x code maxLocals ret :: tables_1) hat d (List.mem_cons_of_mem _ hd)
  obtain ⟨gb0, ga1⟩ := and_e ga0
  obtain ⟨i0, ei0⟩ := is_v gb0
  obtain rfl : w0 = (.int i0) := Option.some.inj ei0
  obtain ⟨i1, ei1⟩ := is_v ga1
  obtain rfl : w1 = (.int i1) := Option.some.inj ei1
  obtain ⟨n, o, h1, h2, h3, _, L, rfl, ⟨rfl, N⟩, hq⟩ := rm_law l s _ hw i0 i1 s.heap s.heap.size (Nat.le_refl _) p e ha hc hk s m _ below hf ((Spec.applies_iff_loose hf).mp happ).1 ⟨rfl, State.Warmed39.refl s, rfl⟩ trivial
  exact ⟨n, _, h1, h2, h3, hpost _ _ _ _ _ _ ⟨Cond.after_iff.mpr rfl, Cond.after_iff.mpr (eq_i res_at (Term.int_eval (1)) rfl), trivial⟩ ⟨hq.1, hq.2.1, (hq.2.2.sift fun y hy => Or.inr (N y hy)).mono (by decide) (by decide)⟩⟩
theorem main_1_1 : Claimed_1_1 := comes_1 fun _ _ _ _ _ _ h hF => ⟨h.1, hF⟩
theorem main_1_2 : Claimed_1_2 := comes_1 fun _ _ _ _ _ _ h hF => ⟨h.2.1, hF⟩
end Jvm.Pilot.@@N@@
namespace Jvm.Pilot.@@N@@
open Jvm Jvm.ClassFile Sem Op Lib Jvm.Free Jvm.Stand Jvm.Pilot.@@N@@.Jvm.D
/-! MADE BY PROGRAM (witnessworld.py) out of the Statement's table words and the real class files: 12 classes; the members and pool entries that the words name. The judged class is class 1, her method 2. -/
namespace start1
open Jvm.ClassFile
def u (s : String) : CpInfo := .utf8 (stringToUtf16 s)
/-- a pool by its gaps: so many unusable entries, then the entry; so many at the end -/
def gap : Nat → List CpInfo → List CpInfo
  | 0, r => r
  | n + 1, r => .unusable :: gap n r
def poolList (es : List (Nat × CpInfo)) (last : Nat) : List CpInfo := es.foldr (fun e r => gap e.1 (e.2 :: r)) (gap last [])
def pool (es : List (Nat × CpInfo)) (last : Nat) : Array CpInfo := ⟨poolList es last⟩
def fileOf (pool : Array CpInfo) (this : Nat) (attrs : Array Attribute := #[]) (ms : Array MethodInfo := #[]) (fl : Nat := 33) (sup : Nat := 0) (ifs : Array Nat := #[]) (fds : Array FieldInfo := #[]) : ClassFile where
  minorVersion := 0
  majorVersion := 65
  constantPool := pool
  accessFlags := fl
  thisClass := this
  superClass := sup
  interfaces := ifs
  fields := fds
  methods := ms
  attributes := attrs
def plain (name : String) (sup : Option ClassId) : Class where
  name := name
  kind := .ordinary
  loader := none
  accessFlags := 33
  super := sup
  interfaces := #[]
  cf := none
  fields := #[]
  methods := #[]
  instanceTypes := #[]
  staticTypes := #[]
  resolved := #[]
  callSites := []
  init := .initialized
  statics := none
  mirror := none

def pool0 : Array CpInfo := pool [(5, u "<init>"), (0, u "()V"), (1, .class_ 10), (1, u "java/lang/Object")] 113

def k0m0 : Method := { name := "<init>", desc := "()V", sig := { parameters := [], returnType := none }, accessFlags := 1, code := none }
/-- java/lang/Object -/
def k0 : Class := { plain "java/lang/Object" none with
  accessFlags := 33
  interfaces := #[]
  cf := some (fileOf pool0 8 #[] #[{ accessFlags := 1, nameIndex := 5, descriptorIndex := 6, attributes := #[] }] 33 0 #[] #[])
  fields := #[]
  methods := #[k0m0]
  instanceTypes := #[]
  staticTypes := #[]
  resolved := Array.replicate 124 none
  statics := none }

def pool1 : Array CpInfo := pool [(2, .class_ 4), (1, u "java/lang/Object"), (0, u "<init>"), (0, u "()V"), (0, .long 4294977024), (1, .integer 65535), (0, .methodref 11 12), (0, .class_ 13), (0, .nameAndType 14 15), (0, u "org/responsa/io/StartTag"), (0, u "isWhitespace"), (0, u "(C)Z"), (0, .methodref 17 18), (0, .class_ 19), (0, .nameAndType 20 15), (0, u "org/responsa/io/StartTagIsWhitespacePinLaw"), (0, u "reference"), (3, u "law"), (0, u "(II)Z")] 4

def k1m0 : Method := { name := "<init>", desc := "()V", sig := { parameters := [], returnType := none }, accessFlags := 1, code := none }
def k1c1 : Code := { maxStack := 4, maxLocals := 2, code := method_2_code, exceptionTable := #[], attributes := #[] }
def k1m1 : Method := { name := "reference", desc := "(C)Z", sig := { parameters := [.char], returnType := some .boolean }, accessFlags := 10, code := some k1c1 }
def k1c2 : Code := { maxStack := 4, maxLocals := 5, code := code, exceptionTable := #[], attributes := #[] }
def k1m2 : Method := { name := "law", desc := "(II)Z", sig := { parameters := [.int, .int], returnType := some .boolean }, accessFlags := 9, code := some k1c2 }
/-- org/responsa/io/StartTagIsWhitespacePinLaw -/
def k1 : Class := { plain "org/responsa/io/StartTagIsWhitespacePinLaw" (some 0) with
  accessFlags := 49
  interfaces := #[]
  cf := some (fileOf pool1 17 #[] #[{ accessFlags := 1, nameIndex := 5, descriptorIndex := 6, attributes := #[] }, { accessFlags := 10, nameIndex := 20, descriptorIndex := 15, attributes := #[] }, { accessFlags := 9, nameIndex := 24, descriptorIndex := 25, attributes := #[] }] 49 2 #[] #[])
  fields := #[]
  methods := #[k1m0, k1m1, k1m2]
  instanceTypes := #[]
  staticTypes := #[]
  resolved := Array.replicate 30 none
  statics := none }

def pool2 : Array CpInfo := pool [(2, .class_ 4), (1, u "java/lang/Object"), (0, u "<init>"), (0, u "()V"), (0, .class_ 8), (0, u "java/lang/Record")] 13

def k2m0 : Method := { name := "<init>", desc := "()V", sig := { parameters := [], returnType := none }, accessFlags := 4, code := none }
/-- java/lang/Record -/
def k2 : Class := { plain "java/lang/Record" (some 0) with
  accessFlags := 1057
  interfaces := #[]
  cf := some (fileOf pool2 7 #[] #[{ accessFlags := 4, nameIndex := 5, descriptorIndex := 6, attributes := #[] }] 1057 2 #[] #[])
  fields := #[]
  methods := #[k2m0]
  instanceTypes := #[]
  staticTypes := #[]
  resolved := Array.replicate 22 none
  statics := none }

def pool3 : Array CpInfo := pool [(2, .class_ 4), (1, u "java/lang/Record"), (9, .class_ 16), (1, u "org/responsa/io/StartTag"), (0, u "name"), (0, u "Ljava/lang/String;"), (2, u "attributes"), (0, u "Ljava/util/List;"), (2, u "empty"), (0, u "Z"), (51, .class_ 79), (0, u "org/responsa/io/StartTag$Attribute"), (36, u "isWhitespace"), (0, u "(C)Z")] 84

def k3c0 : Code := { maxStack := 2, maxLocals := 1, code := prog_6_method_7_code, exceptionTable := #[], attributes := #[] }
def k3m0 : Method := { name := "isWhitespace", desc := "(C)Z", sig := { parameters := [.char], returnType := some .boolean }, accessFlags := 9, code := some k3c0 }
/-- org/responsa/io/StartTag -/
def k3 : Class := { plain "org/responsa/io/StartTag" (some 2) with
  accessFlags := 49
  interfaces := #[]
  cf := some (fileOf pool3 14 #[.nestMembers #[78]] #[{ accessFlags := 9, nameIndex := 116, descriptorIndex := 117, attributes := #[] }] 49 2 #[] #[{ accessFlags := 18, nameIndex := 17, descriptorIndex := 18, attributes := #[] }, { accessFlags := 18, nameIndex := 21, descriptorIndex := 22, attributes := #[] }, { accessFlags := 18, nameIndex := 25, descriptorIndex := 26, attributes := #[] }])
  fields := #[{ name := "name", type := (.object "java/lang/String"), accessFlags := 18, slot := 0, constantValue := 0 }, { name := "attributes", type := (.object "java/util/List"), accessFlags := 18, slot := 1, constantValue := 0 }, { name := "empty", type := .boolean, accessFlags := 18, slot := 2, constantValue := 0 }]
  methods := #[k3m0]
  instanceTypes := #[(.object "java/lang/String"), (.object "java/util/List"), .boolean]
  staticTypes := #[]
  resolved := Array.replicate 202 none
  statics := none }

def pool4 : Array CpInfo := pool [(1, u "java/lang/Cloneable"), (0, .class_ 1), (0, u "java/lang/Object"), (0, .class_ 3)] 3

/-- java/lang/Cloneable -/
def k4 : Class := { plain "java/lang/Cloneable" (some 0) with
  accessFlags := 1537
  interfaces := #[]
  cf := some (fileOf pool4 2 #[] #[] 1537 4 #[] #[])
  fields := #[]
  methods := #[]
  instanceTypes := #[]
  staticTypes := #[]
  resolved := Array.replicate 8 none
  statics := none }

def pool5 : Array CpInfo := pool [(1, u "java/io/Serializable"), (0, .class_ 1), (0, u "java/lang/Object"), (0, .class_ 3)] 3

/-- java/io/Serializable -/
def k5 : Class := { plain "java/io/Serializable" (some 0) with
  accessFlags := 1537
  interfaces := #[]
  cf := some (fileOf pool5 2 #[] #[] 1537 4 #[] #[])
  fields := #[]
  methods := #[]
  instanceTypes := #[]
  staticTypes := #[]
  resolved := Array.replicate 8 none
  statics := none }

/-- the primitive byte -/
def k6 : Class := { plain "byte" none with kind := .primitive 'B', accessFlags := 0x411 }
/-- [B -/
def k7 : Class := { plain "[B" (some 0) with kind := .array 6 .byte, interfaces := #[4, 5], accessFlags := 1041 }

/-- the primitive char -/
def k8 : Class := { plain "char" none with kind := .primitive 'C', accessFlags := 0x411 }
/-- [C -/
def k9 : Class := { plain "[C" (some 0) with kind := .array 8 .char, interfaces := #[4, 5], accessFlags := 1041 }

/-- the primitive int -/
def k10 : Class := { plain "int" none with kind := .primitive 'I', accessFlags := 0x411 }
/-- [I -/
def k11 : Class := { plain "[I" (some 0) with kind := .array 10 .int, interfaces := #[4, 5], accessFlags := 1041 }

def heap : Heap := #[]
def classes : Array Class := #[k0, k1, k2, k3, k4, k5, k6, k7, k8, k9, k10, k11]
def interned : List (Array UInt16 × Addr) := []
def slotsUsed : Nat := 0
def theMethod : MethodId := ⟨1, 2⟩
def args0 : Array Value := #[.int 5, .int 8]
def aboutOver (below : List Frame) : State where
  vm := { classes := classes, interned := interned.toArray }
  heap := heap
  slotsUsed := slotsUsed
  threads := #[{ frames := .invoking theMethod args0 :: below }]
def below0 : List Frame := [.native { method := ⟨0, 0⟩, args := #[] }]
def about1 : State := aboutOver below0
def p0 : Program := .bare "" "" ""
def e0 : Env := launch0.env 0 0 0
theorem w_frames : about1.frames = Frame.invoking theMethod args0 :: below0 := rfl
set_option maxRecDepth 65536 in
theorem w_args : argsFit about1.vm theMethod args0 = true := by decide +kernel
set_option maxRecDepth 65536 in
theorem w_heap : heapFits about1 = true := by decide +kernel
set_option maxRecDepth 65536 in
theorem w_runnable : about1.curStatus? = some .runnable := by decide +kernel
set_option maxRecDepth 65536 in
theorem w_alone : about1.alone = true := by decide +kernel
set_option maxRecDepth 65536 in
theorem w_named : about1.methodNamed? x = some theMethod := by decide +kernel
set_option maxRecDepth 65536 in
theorem w_hears : about1.hears theMethod below0 = true := by decide +kernel
set_option maxRecDepth 65536 in
theorem w_ripe : about1.ripe theMethod args0 below0 = true := by decide +kernel
theorem w_running : about1.status = .running := rfl
set_option maxRecDepth 65536 in
theorem w_room : about1.hasRoom e0.platform room_1 = true :=
  launch0.hasRoom_least _ room_1 (by decide +kernel) (by decide +kernel) (by decide +kernel) (by decide +kernel) (by decide +kernel) (by decide +kernel)
theorem allAtoms_all (ts : List Jvm.Cond) (a : Array Jvm.Value) (st : Jvm.State) : (allAtoms ts).before a st = ts.all (fun c => c.before a st) := by
  induction ts with
  | nil => rfl
  | cons c t ih =>
    show (Jvm.Cond.and c (allAtoms t)).before a st = _
    rw [Jvm.Cond.before_and, ih, List.all_cons]
def words1 : List Jvm.Cond := Jvm.Cond.code x code maxLocals ret :: tables_1
/-- a 'code' word, met by the world's own term for the bytes: nothing is compared byte by byte -/
theorem code_word {y : MethodName} {bytes : ByteArray} {mx : Nat} {rt : Option FieldType} {a : Array Value} {s : State} {m : MethodId} {meth : Method} {c : Code} (h1 : s.methodNamed? y = some m) (h2 : s.vm.method? m = some meth) (h3 : meth.code = some c) (h4 : c.code = bytes)
    (h5 : (c.maxLocals == mx && c.exceptionTable.isEmpty && decide (c.maxStack ≤ mostOperands) && decide (meth.sig.returnType = rt) && !meth.locks && decide (parseMethodDescriptor y.desc = some meth.sig)) = true) : (Jvm.Cond.code y bytes mx rt).before a s = true := by
  simp only [Bool.and_eq_true, beq_iff_eq, Bool.not_eq_true', decide_eq_true_eq] at h5
  obtain ⟨⟨⟨⟨⟨g1, g2⟩, g3⟩, g4⟩, g5⟩, g6⟩ := h5
  simp [Cond.before, Cond.holds, Cond.value, h1, h2, h3, h4, g1, g2, g3, g4, g5, g6]
def isCode : Jvm.Cond → Bool
  | .code _ _ _ _ => true
  | _ => false
theorem all_split {L : List Jvm.Cond} {P : Jvm.Cond → Bool} (h1 : L.all (fun c => isCode c || P c) = true) (h2 : ∀ c ∈ L.filter isCode, P c = true) : L.all P = true := by
  refine List.all_eq_true.mpr fun c hc => ?_
  have h := List.all_eq_true.mp h1 c hc
  rcases Bool.eq_false_or_eq_true (isCode c) with hi | hi
  · exact h2 c (List.mem_filter.mpr ⟨hc, hi⟩)
  · simpa [hi] using h
set_option maxRecDepth 65536 in
theorem w_c0 : (Jvm.Cond.code x code maxLocals ret).before args0 about1 = true := code_word (m := ⟨1, 2⟩) (meth := k1m2) (c := k1c2) (by decide +kernel) rfl rfl rfl (by decide +kernel)
set_option maxRecDepth 65536 in
theorem w_c1 : (Jvm.Cond.code ({ cls := "org/responsa/io/StartTag", name := "isWhitespace", desc := "(C)Z" } : Jvm.MethodName) prog_6_method_7_code (1 : Nat) (Option.some Jvm.ClassFile.FieldType.boolean)).before args0 about1 = true := code_word (m := ⟨3, 0⟩) (meth := k3m0) (c := k3c0) (by decide +kernel) rfl rfl rfl (by decide +kernel)
set_option maxRecDepth 65536 in
theorem w_c2 : (Jvm.Cond.code ({ cls := "org/responsa/io/StartTagIsWhitespacePinLaw", name := "reference", desc := "(C)Z" } : Jvm.MethodName) method_2_code (2 : Nat) (Option.some Jvm.ClassFile.FieldType.boolean)).before args0 about1 = true := code_word (m := ⟨1, 1⟩) (meth := k1m1) (c := k1c1) (by decide +kernel) rfl rfl rfl (by decide +kernel)
def codes1 : List Jvm.Cond := [Jvm.Cond.code x code maxLocals ret, Jvm.Cond.code ({ cls := "org/responsa/io/StartTag", name := "isWhitespace", desc := "(C)Z" } : Jvm.MethodName) prog_6_method_7_code (1 : Nat) (Option.some Jvm.ClassFile.FieldType.boolean), Jvm.Cond.code ({ cls := "org/responsa/io/StartTagIsWhitespacePinLaw", name := "reference", desc := "(C)Z" } : Jvm.MethodName) method_2_code (2 : Nat) (Option.some Jvm.ClassFile.FieldType.boolean)]
set_option maxRecDepth 65536 in
theorem codes_eq : words1.filter isCode = codes1 := rfl
theorem w_codes : ∀ c ∈ words1.filter isCode, c.before args0 about1 = true := by
  rw [codes_eq]
  intro c hc
  simp only [codes1, List.mem_cons, List.not_mem_nil, or_false] at hc
  rcases hc with rfl | rfl | rfl
  · exact w_c0
  · exact w_c1
  · exact w_c2
set_option maxRecDepth 65536 in
theorem w_t1 : words1.all (fun c => isCode c || c.before args0 about1) = true := by decide +kernel
theorem w_tables : (allAtoms (Jvm.Cond.code x code maxLocals ret :: tables_1)).before args0 about1 = true := by
  rw [allAtoms_all]
  show words1.all (fun c => c.before args0 about1) = true
  refine all_split ?_ w_codes
  rw [w_t1]
set_option maxRecDepth 65536 in
theorem w_case : (Jvm.Cond.and given_1 narrow_1).before args0 about1 = true := by decide +kernel
theorem w_applies : (headSpec (Jvm.Cond.code x code maxLocals ret :: tables_1) room_1).applies x e0.platform about1 = true :=
  (Spec.applies_iff w_frames).mpr ⟨w_running, w_runnable, w_alone, w_named, w_hears, w_ripe, w_room, w_tables⟩
theorem atStart : AtStart classFile x code maxLocals ret World_1 tables_1 room_1 Calls_1 rest_1 Pre_1 launch0 p0 e0 about1 theMethod args0 below0 :=
  ⟨lists_1, trivial, launch0.admits_env _ _ _, launch0.least_env, fairChoices_fair.cas, fairChoices_fair.clock, w_frames, w_args, w_heap, w_applies, trivial, trivial, w_case⟩
end start1
theorem witness_1 : WitnessClaimed_1 := ⟨start1.p0, start1.e0, start1.about1, start1.theMethod, start1.args0, start1.below0, start1.atStart⟩
end Jvm.Pilot.@@N@@
