import JvmDerived
import JvmDerived.Pilot.@@N@@Statement
import JvmDerived.Pilot.@@N@@Code
set_option linter.unusedVariables false
set_option linter.unusedSimpArgs false
@@BLOCK:NumsL.lean.txt@@
namespace Jvm.Pilot.@@N@@
open Jvm Jvm.ClassFile Sem Op Lib Jvm.Free Jvm.Stand Jvm.LawKit Jvm.RoadKit Bundle Jvm.Pilot.@@N@@.Jvm.D
def own_Go (p : Program) (e : Env) (below : List Frame) (G : Outcome → State → Prop) (t : State) : Prop :=
  ∃ s₂ o, Steps p.tables e below t s₂ ∧ s₂.status = .running ∧ Ended s₂ below o ∧ G o s₂
def own_G (s : State) (Q : Option Value → Heap → List Loc → Prop) (C S : Nat) (o : Outcome) (U : State) : Prop :=
  ∃ v L, o = .returned v ∧ Q v U.heap L ∧ FrameEnd s o U L C S
def own_Met (l : Launch) (Z : State) (y : MethodName) (bytes : ByteArray) (maxL : Nat) (rt : Option FieldType) (rm : Room) (as : Array Value) (h : Heap) (Q : Option Value → Heap → List Loc → Prop) : Prop :=
  MetFree l y (head1 [Jvm.Cond.code y bytes maxL rt] rm) (fun a U => a = as ∧ Z.Warmed39 U.vm ∧ U.heap = h) (fun _ _ _ _ _ => True) (fun _ U o U' => ∃ v L, o = .returned v ∧ Q v U'.heap L ∧ FrameEnd U o U' L rm.cells rm.slots)
def own_MetL (l : Launch) (Z : State) (as : Array Value) (h : Heap) (Q : Option Value → Heap → List Loc → Prop) : Prop :=
  MetFree l x (head1 (Jvm.Cond.code x code maxLocals ret :: tables_1) room_1) (fun a U => a = as ∧ Z.Warmed39 U.vm ∧ U.heap = h) (fun _ _ _ _ _ => True) (fun _ U o U' => ∃ v L, o = .returned v ∧ Q v U'.heap L ∧ FrameEnd U o U' L room_1.cells room_1.slots)
theorem own_pays {l : Launch} {Z : State} {p : Program} {e : Env} {R : Room} {s : State} {args : Array Value} {below : List Frame} {a0 : Array Value} {h : Heap} {y : MethodName} {bytes : ByteArray} {maxL : Nat} {rt : Option FieldType} {rm : Room} {len W : Nat} {as' : Array Value} {Q : Option Value → Heap → List Loc → Prop}
    (hM : own_Met l Z y bytes maxL rt rm as' h Q) (hZ : Z.Warmed39 s.vm) (wc : (Jvm.Cond.code y bytes maxL rt).before a0 Z = true) (wz : (Jvm.Cond.initialized y.cls).before a0 Z = true) (hf : rm.frames + 1 ≤ R.frames) (hl : W + (maxL + 11) + rm.locals ≤ R.locals) :
    Back l R p e below s args y len W (fun A a => a = as' ∧ A.U.heap = h ∧ A.cells + rm.cells ≤ R.cells ∧ A.slots + rm.slots ≤ R.slots)
      (fun A _ v B => ∃ L, Q v B.U.heap L ∧ B.locs = A.locs ++ L ∧ B.cells = A.cells + rm.cells ∧ B.slots = A.slots + rm.slots) :=
  backOf hM hZ wc wz hf hl
section OwnSteps
variable {p : Program} {l : Launch} {e : Env} {R : Room} {s : State} {m : MethodId} {args : Array Value} {below : List Frame} {meth : Method} {c : Code} {T : State} {locs : List Loc} {cells slots : Nat} {h : Heap} {G : Outcome → State → Prop} {t t' : State} {Q : Option Value → Heap → List Loc → Prop} {C S pc : Nat} {Ls : Array Slot} {rest : List Value}
theorem own_go (k : Steps p.tables e below t t') (r : own_Go p e below G t') : own_Go p e below G t := by
  obtain ⟨s₂, o, h1, h2⟩ := r
  exact ⟨s₂, o, k.trans h1, h2⟩
theorem own_ret (X : Stand p l e R s m args below meth c T locs cells slots) (hx : p.tables.exec = Jvm.exec) (hlk : meth.locks = false) (eT : T.heap = h) {w : Value} {ty : FieldType} {i : Instr} (hret : meth.sig.returnType = some ty) (hn : narrow ty w = w)
    (hi : (i = .ireturn ∧ (ty = .int ∨ ty = .boolean ∨ ty = .byte ∨ ty = .char ∨ ty = .short) ∧ ∃ z, w = .int z) ∨ (i = .lreturn ∧ ty = .long ∧ ∃ z, w = .long z) ∨ (i = .dreturn ∧ ty = .double ∧ ∃ z, w = .double z) ∨ (i = .freturn ∧ ty = .float ∧ ∃ z, w = .float z) ∨ (i = .areturn ∧ ty.isReference = true ∧ w.isRef = true))
    (hd : decode c.code pc = .ok (i, 1)) (hQ : Q (some w) h locs) (hc : cells ≤ C) (hs : slots ≤ S) : own_Go p e below (own_G s Q C S) (T.setTop (mkF m pc Ls (w :: rest))) := by
  obtain ⟨fs, hr, hrun, hended, hW, hsame⟩ := X.leave (v := some w) (fun q => by rw [hret] at q; cases q)
  exact ⟨_, _, retOut X hx hret hn hi hd hr, hrun, hended, _, _, rfl, by show Q _ T.heap _; rw [eT]; exact hQ, ⟨_, rfl⟩, hW, hsame.mono hc hs⟩
theorem own_retI (X : Stand p l e R s m args below meth c T locs cells slots) (hx : p.tables.exec = Jvm.exec) (hlk : meth.locks = false) (eT : T.heap = h) {z : Int32} (hret : meth.sig.returnType = some .int) (hd : decode c.code pc = .ok (.ireturn, 1)) (hQ : Q (some (.int z)) h locs) (hc : cells ≤ C) (hs : slots ≤ S) : own_Go p e below (own_G s Q C S) (T.setTop (mkF m pc Ls (.int z :: rest))) :=
  own_ret X hx hlk eT hret rfl (Or.inl ⟨rfl, Or.inl rfl, z, rfl⟩) hd hQ hc hs
theorem own_retZ (X : Stand p l e R s m args below meth c T locs cells slots) (hx : p.tables.exec = Jvm.exec) (hlk : meth.locks = false) (eT : T.heap = h) {z : Int32} (hret : meth.sig.returnType = some .boolean) (hd : decode c.code pc = .ok (.ireturn, 1)) (hz : z = 0 ∨ z = 1) (hQ : Q (some (.int z)) h locs) (hc : cells ≤ C) (hs : slots ≤ S) : own_Go p e below (own_G s Q C S) (T.setTop (mkF m pc Ls (.int z :: rest))) :=
  own_ret X hx hlk eT hret (by rcases hz with rfl | rfl <;> rfl) (Or.inl ⟨rfl, Or.inr (Or.inl rfl), z, rfl⟩) hd hQ hc hs
theorem own_retJ (X : Stand p l e R s m args below meth c T locs cells slots) (hx : p.tables.exec = Jvm.exec) (hlk : meth.locks = false) (eT : T.heap = h) {z : Int64} (hret : meth.sig.returnType = some .long) (hd : decode c.code pc = .ok (.lreturn, 1)) (hQ : Q (some (.long z)) h locs) (hc : cells ≤ C) (hs : slots ≤ S) : own_Go p e below (own_G s Q C S) (T.setTop (mkF m pc Ls (.long z :: rest))) :=
  own_ret X hx hlk eT hret rfl (Or.inr (Or.inl ⟨rfl, rfl, z, rfl⟩)) hd hQ hc hs
theorem own_retA (X : Stand p l e R s m args below meth c T locs cells slots) (hx : p.tables.exec = Jvm.exec) (hlk : meth.locks = false) (eT : T.heap = h) {a : Addr} {ty : FieldType} (hret : meth.sig.returnType = some ty) (ht : ty.isReference = true) (hd : decode c.code pc = .ok (.areturn, 1)) (hQ : Q (some (.ref a)) h locs) (hc : cells ≤ C) (hs : slots ≤ S) : own_Go p e below (own_G s Q C S) (T.setTop (mkF m pc Ls (.ref a :: rest))) :=
  own_ret X hx hlk eT hret (by cases ty <;> first | rfl | cases ht) (Or.inr (Or.inr (Or.inr (Or.inr ⟨rfl, ht, rfl⟩)))) hd hQ hc hs
theorem own_retV (X : Stand p l e R s m args below meth c T locs cells slots) (hx : p.tables.exec = Jvm.exec) (hlk : meth.locks = false) (eT : T.heap = h) (hret : meth.sig.returnType = none) (hd : decode c.code pc = .ok (.return_, 1)) (hQ : Q none h locs) (hc : cells ≤ C) (hs : slots ≤ S) : own_Go p e below (own_G s Q C S) (T.setTop (mkF m pc Ls [])) := by
  obtain ⟨fs, hr, hrun, hended, hW, hsame⟩ := X.leave (v := none) (fun _ => rfl)
  exact ⟨_, _, X.returnOut hx hret hd hr, hrun, hended, _, _, rfl, by show Q _ T.heap _; rw [eT]; exact hQ, ⟨_, rfl⟩, hW, hsame.mono hc hs⟩
end OwnSteps
def own_b (P : Prop) [Decidable P] : Int32 := if P then 1 else 0
theorem own_b_t {P : Prop} [Decidable P] (h : P) : own_b P = 1 := if_pos h
theorem own_b_f {P : Prop} [Decidable P] (h : ¬ P) : own_b P = 0 := if_neg h
theorem own_b_nz {P : Prop} [Decidable P] (h : P) : ¬ own_b P = 0 := by rw [own_b_t h]; decide
theorem own_b_01 (P : Prop) [Decidable P] : own_b P = 0 ∨ own_b P = 1 := by
  by_cases h : P
  · exact Or.inr (own_b_t h)
  · exact Or.inl (own_b_f h)
theorem own_tltJ {x y : Int64} (h : x < y) : ifCond.holds .lt (lcmpW x y) = true ∧ ifCond.holds .ge (lcmpW x y) = false := by
  have q := tlt (show lcmpW x y < 0 by rw [lcW]; exact (lc_lt x y).mpr h)
  exact ⟨(if0 _ _).trans q.1, (if0 _ _).trans q.2.1⟩
theorem own_fltJ {x y : Int64} (h : ¬ x < y) : ifCond.holds .lt (lcmpW x y) = false ∧ ifCond.holds .ge (lcmpW x y) = true := by
  have q := flt (show ¬ lcmpW x y < 0 by rw [lcW]; exact fun z => h ((lc_lt x y).mp z))
  exact ⟨(if0 _ _).trans q.1, (if0 _ _).trans q.2.1⟩
theorem own_tgtJ {x y : Int64} (h : y < x) : ifCond.holds .gt (lcmpW x y) = true ∧ ifCond.holds .le (lcmpW x y) = false := by
  have q := tlt (show 0 < lcmpW x y by rw [lcW]; exact (lc_gt x y).mpr h)
  exact ⟨(if0 _ _).trans q.2.2.1, (if0 _ _).trans q.2.2.2⟩
theorem own_fgtJ {x y : Int64} (h : ¬ y < x) : ifCond.holds .gt (lcmpW x y) = false ∧ ifCond.holds .le (lcmpW x y) = true := by
  have q := flt (show ¬ 0 < lcmpW x y by rw [lcW]; exact fun z => h ((lc_gt x y).mp z))
  exact ⟨(if0 _ _).trans q.2.2.1, (if0 _ _).trans q.2.2.2⟩
theorem own_teqJ {x y : Int64} (h : x = y) : ifCond.holds .eq (lcmpW x y) = true ∧ ifCond.holds .ne (lcmpW x y) = false := by
  have q := teq (show lcmpW x y = 0 by rw [lcW]; exact (lc_eq x y).mpr h)
  exact ⟨(if0 _ _).trans q.1, (if0 _ _).trans q.2⟩
theorem own_feqJ {x y : Int64} (h : ¬ x = y) : ifCond.holds .eq (lcmpW x y) = false ∧ ifCond.holds .ne (lcmpW x y) = true := by
  have q := feq (show ¬ lcmpW x y = 0 by rw [lcW]; exact fun z => h ((lc_eq x y).mp z))
  exact ⟨(if0 _ _).trans q.1, (if0 _ _).trans q.2⟩
section OwnHeap
variable {p : Program} {l : Launch} {e : Env} {R : Room} {s : State} {m : MethodId} {args : Array Value} {below : List Frame} {meth : Method} {c : Code} {T : State} {locs : List Loc} {cells slots : Nat} {Z : State} {a0 : Array Value} {h : Heap} {a : Addr} {k : ClassId} {n j : Int32} {vs : List Value} {dv : Value} {g : JFrame} {rest : List Value}
theorem own_newP (X : Stand p l e R s m args below meth c T locs cells slots) (hx : p.tables.exec = Jvm.exec) (hZ : Z.Warmed39 s.vm) {aty : ArrayType} (w : (Cond.arrayClass (newarray.typeOf aty)).before a0 Z = true) (eT : T.heap = h) (hg : g.method = m) (hd : decode c.code g.pc = .ok (.newarray aty, 2)) (hs : g.stack = .int n :: rest)
    (hn : ¬ n < 0) {cap : Nat} (hcap : n.toNatClampNeg ≤ cap) (hb : cap * 8 ≤ 536870912) (hc : cells + 1 ≤ R.cells) (hl : slots + cap ≤ R.slots) :
    ∃ T' h' cA a, a = h.size ∧ Stand p l e R s m args below meth c T' locs (cells + 1) (slots + cap) ∧ T'.heap = h' ∧ Ext h h' ∧ Arv Z h' a cA (newarray.typeOf aty) n (List.replicate cap (defaultValue (newarray.typeOf aty))) (defaultValue (newarray.typeOf aty)) ∧
      Steps p.tables e below (T.setTop g) (T'.setTop { g with pc := g.pc + 2, stack := .ref a :: rest }) := by
  obtain ⟨T', h', cA, X', e', E, A, st⟩ := newP X hx hZ w eT hg hd hs hn hcap hb hc hl
  exact ⟨T', h', cA, _, rfl, X', e', E, (Arv.new A hn).pad (pad_rep [] _ cap), st _ (Steps.refl _)⟩
theorem own_newO (X : Stand p l e R s m args below meth c T locs cells slots) (hx : p.tables.exec = Jvm.exec) (hZ : Z.Warmed39 s.vm) {own C : String} {index n : Nat} (hown : s.vm.findClass own = some m.cls) (w : (Cond.classLink own index C).before a0 Z = true) (wi : (Cond.instantiable C n).before a0 Z = true) (wz : (Cond.initialized C).before a0 Z = true) (eT : T.heap = h)
    (hg : g.method = m) (hd : decode c.code g.pc = .ok (.new index, 3)) (hc : cells + 1 ≤ R.cells) (hl : slots + n ≤ R.slots) :
    ∃ T' h' a, a = h.size ∧ Stand p l e R s m args below meth c T' locs (cells + 1) (slots + n) ∧ T'.heap = h' ∧ Ext h h' ∧ Exa Z h' a C ∧ (∀ {O nm d : String} {ty : FieldType}, Laid Z a0 C O nm d → parseFieldDescriptor d = some ty → Fld Z h' a O nm d (defaultValue ty)) ∧
      Steps p.tables e below (T.setTop g) (T'.setTop { g with pc := g.pc + 3, stack := .ref a :: g.stack }) := by
  obtain ⟨T', h', X', e', E, A, D, -, st⟩ := newO X hx hZ hown w wi wz eT hg hd hc hl
  exact ⟨T', h', _, rfl, X', e', E, A, D, st _ (Steps.refl _)⟩
theorem own_stI (X : Stand p l e R s m args below meth c T locs cells slots) (hx : p.tables.exec = Jvm.exec) (hZ : Z.Warmed39 s.vm) (eT : T.heap = h) (F : Arv Z h a k .int n vs dv) (h0 : ¬ j < 0) (h1 : j < n) {x : Int32} (hg : g.method = m) (hs : g.stack = .int x :: .int j :: .ref a :: rest) (hd : decode c.code g.pc = .ok (.iastore, 1)) {i : Nat} (hi : j.toNatClampNeg = i) (hl : i < vs.length) :
    ∃ T' h', Stand p l e R s m args below meth c T' (locs ++ [⟨a, j.toNatClampNeg⟩]) cells slots ∧ T'.heap = h' ∧ Wr h h' a j.toNatClampNeg (.int x) ∧ Arv Z h' a k .int n (vs.set i (.int x)) dv ∧ Steps p.tables e below (T.setTop g) (T'.setTop { g with pc := g.pc + 1, stack := rest }) := by
  obtain ⟨cl, A, q1, S, q3, H, G⟩ := F
  obtain ⟨T', h', X', e', W, st⟩ := stI X hx hZ eT A (inb_of S ⟨h0, h1⟩) hg hs hd
  exact ⟨T', h', X', e', W, Arv.set A q1 S q3 H G rfl W i hi hl, st _ (Steps.refl _)⟩
theorem own_stC (X : Stand p l e R s m args below meth c T locs cells slots) (hx : p.tables.exec = Jvm.exec) (hZ : Z.Warmed39 s.vm) (eT : T.heap = h) (F : Arv Z h a k .char n vs dv) (h0 : ¬ j < 0) (h1 : j < n) {x : Int32} (hg : g.method = m) (hs : g.stack = .int x :: .int j :: .ref a :: rest) (hd : decode c.code g.pc = .ok (.castore, 1)) {i : Nat} (hi : j.toNatClampNeg = i) (hl : i < vs.length) :
    ∃ T' h', Stand p l e R s m args below meth c T' (locs ++ [⟨a, j.toNatClampNeg⟩]) cells slots ∧ T'.heap = h' ∧ Wr h h' a j.toNatClampNeg (.int (nar .char x)) ∧ Arv Z h' a k .char n (vs.set i (.int (nar .char x))) dv ∧ Steps p.tables e below (T.setTop g) (T'.setTop { g with pc := g.pc + 1, stack := rest }) := by
  obtain ⟨cl, A, q1, S, q3, H, G⟩ := F
  obtain ⟨T', h', X', e', W, st⟩ := stC X hx hZ eT A (inb_of S ⟨h0, h1⟩) hg hs hd
  exact ⟨T', h', X', e', W, Arv.set A q1 S q3 H G (fits_nar_char _) W i hi hl, st _ (Steps.refl _)⟩
theorem own_stB (X : Stand p l e R s m args below meth c T locs cells slots) (hx : p.tables.exec = Jvm.exec) (hZ : Z.Warmed39 s.vm) (eT : T.heap = h) (F : Arv Z h a k .byte n vs dv) (h0 : ¬ j < 0) (h1 : j < n) {x : Int32} (hg : g.method = m) (hs : g.stack = .int x :: .int j :: .ref a :: rest) (hd : decode c.code g.pc = .ok (.bastore, 1)) {i : Nat} (hi : j.toNatClampNeg = i) (hl : i < vs.length) :
    ∃ T' h', Stand p l e R s m args below meth c T' (locs ++ [⟨a, j.toNatClampNeg⟩]) cells slots ∧ T'.heap = h' ∧ Wr h h' a j.toNatClampNeg (.int (nar .byte x)) ∧ Arv Z h' a k .byte n (vs.set i (.int (nar .byte x))) dv ∧ Steps p.tables e below (T.setTop g) (T'.setTop { g with pc := g.pc + 1, stack := rest }) := by
  obtain ⟨cl, A, q1, S, q3, H, G⟩ := F
  obtain ⟨T', h', X', e', W, st⟩ := stB X hx hZ eT A (inb_of S ⟨h0, h1⟩) hg hs hd
  exact ⟨T', h', X', e', W, Arv.set A q1 S q3 H G (fits_nar_byte _) W i hi hl, st _ (Steps.refl _)⟩
theorem own_ldI (X : Stand p l e R s m args below meth c T locs cells slots) (hx : p.tables.exec = Jvm.exec) (hZ : Z.Warmed39 s.vm) (eT : T.heap = h) (F : Arv Z h a k .int n vs dv) (h0 : ¬ j < 0) (h1 : j < n) {v : Int32} (hv : vs.getD j.toNatClampNeg dv = .int v) (hg : g.method = m) (hs : g.stack = .int j :: .ref a :: rest) (hd : decode c.code g.pc = .ok (.iaload, 1)) :
    Steps p.tables e below (T.setTop g) (T.setTop { g with pc := g.pc + 1, stack := .int v :: rest }) := by
  obtain ⟨cl, A, q1, S, q3, H, G⟩ := F
  exact X.iaload hx (j := j) (v := .int v) (by rw [eT]; exact A.1) (State.isArrayOf_alike hZ.alike A.2.1) A.2.2 (inb_of S ⟨h0, h1⟩) (H.at (inb_of S ⟨h0, h1⟩) hv) hg hs hd _ (Steps.refl _)
theorem own_ldC (X : Stand p l e R s m args below meth c T locs cells slots) (hx : p.tables.exec = Jvm.exec) (hZ : Z.Warmed39 s.vm) (eT : T.heap = h) (F : Arv Z h a k .char n vs dv) (h0 : ¬ j < 0) (h1 : j < n) {v : Int32} (hv : vs.getD j.toNatClampNeg dv = .int v) (hg : g.method = m) (hs : g.stack = .int j :: .ref a :: rest) (hd : decode c.code g.pc = .ok (.caload, 1)) :
    Steps p.tables e below (T.setTop g) (T.setTop { g with pc := g.pc + 1, stack := .int v :: rest }) := by
  obtain ⟨cl, A, q1, S, q3, H, G⟩ := F
  exact X.caload hx (j := j) (v := .int v) (by rw [eT]; exact A.1) (State.isArrayOf_alike hZ.alike A.2.1) A.2.2 (inb_of S ⟨h0, h1⟩) (H.at (inb_of S ⟨h0, h1⟩) hv) hg hs hd _ (Steps.refl _)
theorem own_ldB (X : Stand p l e R s m args below meth c T locs cells slots) (hx : p.tables.exec = Jvm.exec) (hZ : Z.Warmed39 s.vm) (eT : T.heap = h) (F : Arv Z h a k .byte n vs dv) (h0 : ¬ j < 0) (h1 : j < n) {v : Int32} (hv : vs.getD j.toNatClampNeg dv = .int v) (hg : g.method = m) (hs : g.stack = .int j :: .ref a :: rest) (hd : decode c.code g.pc = .ok (.baload, 1)) :
    Steps p.tables e below (T.setTop g) (T.setTop { g with pc := g.pc + 1, stack := .int v :: rest }) := by
  obtain ⟨cl, A, q1, S, q3, H, G⟩ := F
  exact X.baloadBytes hx (j := j) (v := .int v) (by rw [eT]; exact A.1) (State.isArrayOf_alike hZ.alike A.2.1) A.2.2 (inb_of S ⟨h0, h1⟩) (H.at (inb_of S ⟨h0, h1⟩) hv) hg hs hd _ (Steps.refl _)
theorem own_len {ty : FieldType} (X : Stand p l e R s m args below meth c T locs cells slots) (hx : p.tables.exec = Jvm.exec) (hZ : Z.Warmed39 s.vm) (eT : T.heap = h) (F : Arv Z h a k ty n vs dv) (hg : g.method = m) (hs : g.stack = .ref a :: rest) (hd : decode c.code g.pc = .ok (.arraylength, 1)) :
    Steps p.tables e below (T.setTop g) (T.setTop { g with pc := g.pc + 1, stack := .int n :: rest }) := by
  obtain ⟨cl, A, q1, S, q3, H, G⟩ := F
  have r := X.arraylength hx (by rw [eT]; exact A.1) (State.isArrayOf_alike hZ.alike A.2.1) hg hs hd _ (Steps.refl _)
  rw [len_of S q3] at r
  exact r
theorem own_newPE (X : Stand p l e R s m args below meth c T locs cells slots) (hx : p.tables.exec = Jvm.exec) (hZ : Z.Warmed39 s.vm) {aty : ArrayType} (w : (Cond.arrayClass (newarray.typeOf aty)).before a0 Z = true) (eT : T.heap = h) (hg : g.method = m) (hd : decode c.code g.pc = .ok (.newarray aty, 2)) (hs : g.stack = .int n :: rest)
    (hn : ¬ n < 0) {cap : Nat} (hcap : n.toNatClampNeg ≤ cap) (hb : cap * 8 ≤ 536870912) (hc : cells + 1 ≤ R.cells) (hl : slots + cap ≤ R.slots) {ad : String} (had : "[" ++ (newarray.typeOf aty).toString = ad) :
    ∃ T' h' cA a, a = h.size ∧ Stand p l e R s m args below meth c T' locs (cells + 1) (slots + cap) ∧ T'.heap = h' ∧ Ext h h' ∧ Arv Z h' a cA (newarray.typeOf aty) n (List.replicate cap (defaultValue (newarray.typeOf aty))) (defaultValue (newarray.typeOf aty)) ∧ Exa Z h' a ad ∧
      Steps p.tables e below (T.setTop g) (T'.setTop { g with pc := g.pc + 2, stack := .ref a :: rest }) := by
  obtain ⟨T', h', cA, X', e', E, A, E2, st⟩ := newPE X hx hZ w eT hg hd hs hn hcap hb hc hl had
  exact ⟨T', h', cA, _, rfl, X', e', E, (Arv.new A hn).pad (pad_rep [] _ cap), E2, st _ (Steps.refl _)⟩
theorem own_clone {ty : FieldType} (X : Stand p l e R s m args below meth c T locs cells slots) (hx : p.tables.exec = Jvm.exec) (hZ : Z.Warmed39 s.vm) {own ad : String} {index : Nat} (hown : s.vm.findClass own = some m.cls)
    (w1 : (Cond.methodLink own index ⟨ad, "clone", "()Ljava/lang/Object;"⟩).before a0 Z = true) (w2 : (Cond.sameMethod ad "java/lang/Object" "clone" "()Ljava/lang/Object;").before a0 Z = true) (w3 : (Cond.native ⟨"java/lang/Object", "clone", "()Ljava/lang/Object;"⟩).before a0 Z = true)
    (w4 : (Cond.instanceMethod ⟨"java/lang/Object", "clone", "()Ljava/lang/Object;"⟩).before a0 Z = true) (w5 : (Cond.selects ad ⟨ad, "clone", "()Ljava/lang/Object;"⟩ ⟨"java/lang/Object", "clone", "()Ljava/lang/Object;"⟩).before a0 Z = true) (w6 : (Cond.castable ad "java/lang/Cloneable").before a0 Z = true)
    (eT : T.heap = h) (F : Arv Z h a k ty n vs dv) (E : Exa Z h a ad) (hg : g.method = m) (hsize : g.locals.size = c.maxLocals) (hst : g.stack = .ref a :: rest) (hd : decode c.code g.pc = .ok (.invokevirtual index, 3))
    (hf : 1 ≤ R.frames) {W cap : Nat} (hW : 2 * g.monitorRoom + (rest.map fun v => v.category).sum ≤ W) (hl : W + 14 ≤ R.locals) (hcap : n.toNatClampNeg ≤ cap) (hc : cells + 1 ≤ R.cells) (hsl : slots + cap ≤ R.slots) :
    ∃ T' h' b, b = h.size ∧ Stand p l e R s m args below meth c T' locs (cells + 1) (slots + cap) ∧ T'.heap = h' ∧ Ext h h' ∧ Arv Z h' b k ty n vs dv ∧ Exa Z h' b ad ∧ Steps p.tables e below (T.setTop g) (T'.setTop { g with pc := g.pc + 3, stack := .ref b :: rest }) := by
  obtain ⟨cl, A, q1, S, q3, H, G⟩ := F
  have FC : FitC Z cl := fitC_of A fun i hi v hv => by rw [H i hi] at hv; cases hv; exact G i hi
  obtain ⟨T', h', X', e', ex, A', E', st⟩ := cloneA X hx hZ hown w1 w2 w3 w4 w5 w6 eT A E FC hg hsize hst hd hf hW hl (by rw [S]; exact hcap) hc hsl
  exact ⟨T', h', _, rfl, X', e', ex, ⟨cloneOf cl, A', q1, S, q3, H, G⟩, E', st _ (Steps.refl _)⟩
theorem own_born {h : Heap} {a b : Addr} (q : a < h.size) (r : b = h.size) : a ≠ b := Nat.ne_of_lt (r ▸ q)
end OwnHeap
def own_min (x y : Int64) : Int64 := if y < x then y else x
def own_max (x y : Int64) : Int64 := if x < y then y else x
theorem own_same (D : Int64) : ¬ D < D := by rw [Int64.lt_iff_toInt_lt]; omega
theorem own_next (d : Int32) : d.toInt64 < d.toInt64 + (1 : Int64) := by
  have e := Jvm.Kit.i64_of_i32 d
  have a := d.toInt_lt
  have b := d.le_toInt
  have e1 : (1 : Int64).toInt = 1 := by decide
  rw [Int64.lt_iff_toInt_lt, Jvm.Kit.i64_add (by omega) (by omega), e, e1]; omega
theorem own_mono (D x y : Int64) (h : ¬ D < own_max x y) : ¬ D < own_min x y := by
  unfold own_max at h
  unfold own_min
  simp only [Int64.lt_iff_toInt_lt] at *
  split at h <;> split <;> omega
theorem own_init0_0 : decode jdk_30_method_1_code 0 = .ok (.aload_n 0, 1) := by decide +kernel
theorem own_init0_1 : decode jdk_30_method_1_code 1 = .ok (.invokespecial 1, 3) := by decide +kernel
theorem own_init0_4 : decode jdk_30_method_1_code 4 = .ok (.return_, 1) := by decide +kernel
theorem own_f1 : plainName "java/lang/Record" = true := by first | (simp [plainName, overriddenIn]; done) | decide +kernel
theorem own_f2 : parseMethodDescriptor "()V" = some ⟨[], none⟩ := by decide +kernel
theorem own_f3 (m : MethodId) (x0 : Addr) : entryFrame m #[(.ref x0)] 1 = mkF m 0 #[.val (.ref x0)] [] := by first | (simp [entryFrame, mkF, argsToLocals, Value.category]; done) | rfl
set_option maxRecDepth 65536 in
set_option maxHeartbeats 40000000 in
theorem rm_rec (l : Launch) (Z : State) (a0 : Array Value) (hw : ∀ d ∈ tables_1, d.before a0 Z = true) (a : Addr) (h0 : Heap) (n0 : Nat) (Z0 : n0 ≤ h0.size)  :
    own_Met l Z (⟨"java/lang/Record", "<init>", "()V"⟩ : MethodName) jdk_30_method_1_code 1 none ({ frames := 1, cells := 0, slots := 0, locals := 12 } : Room) #[(.ref a)] h0 (fun v h L => v = none ∧ L = [] ∧ h = h0) := by
  refine MetFree.of_bodySF (plainFor_of_name own_f1) hisR ?_
  intro p e s m args below meth c s₁ Bd hml0 hP hK
  obtain ⟨rfl, hZ, hh⟩ := hP
  have hx := Bd.exec
  have hby := Bd.bytes
  have hlk : meth.locks = false := Bd.notSynchronized
  have hml : c.maxLocals = 1 := hml0
  have hown : s.vm.findClass "java/lang/Record" = some m.cls := findClass_of_methodNamed Bd.named
  have hnm := (name_of_methodNamed Bd.named Bd.method).1
  have X0 : Stand p l e ({ frames := 1, cells := 0, slots := 0, locals := 12 } : Room) s m #[(.ref a)] below meth c s₁ [] 0 0 := Stand.of_body Bd
  have e0 : s₁.heap = h0 := by rw [← hh, Bd.state]; rfl
  show own_Go p e below (own_G s (fun v h L => v = none ∧ L = [] ∧ h = h0) 0 0) (s₁.setTop (entryFrame m #[(.ref a)] 1))
  rw [own_f3]
  show own_Go p e below _ (s₁.setTop (mkF m 0 #[.val (.ref a)] []))
  refine own_go (XS.aloadN X0.here hx rfl (hb hby own_init0_0) rfl rfl (Steps.refl _)) ?_
  show own_Go p e below _ (s₁.setTop (mkF m 1 #[.val (.ref a)] [(.ref a)]))
  obtain ⟨T1, X1, e1, st1⟩ := initO X0 hx hZ hown (hw _ (List.mem_of_getElem? (i := 11) rfl)) (hw _ (List.mem_of_getElem? (i := 12) rfl)) (hw _ (List.mem_of_getElem? (i := 13) rfl)) e0 (g := (mkF m 1 #[.val (.ref a)] [(.ref a)])) rfl (by rw [hml]; rfl) rfl (hb hby own_init0_1) (by decide) (W := 0) (by show 2 * 0 + _ ≤ _; exact Nat.le_of_eq rfl) (by decide)
  refine own_go (st1 _ (Steps.refl _)) ?_
  show own_Go p e below _ (T1.setTop (mkF m 4 #[.val (.ref a)] []))
  exact own_retV X1 hx hlk e1 Bd.returns (hb hby own_init0_4) ⟨rfl, rfl, rfl⟩ (by decide) (by decide)
theorem own_init4_0 : decode prog_13_method_1_code 0 = .ok (.aload_n 0, 1) := by decide +kernel
theorem own_init4_1 : decode prog_13_method_1_code 1 = .ok (.invokespecial 1, 3) := by decide +kernel
theorem own_init4_4 : decode prog_13_method_1_code 4 = .ok (.aload_n 0, 1) := by decide +kernel
theorem own_init4_5 : decode prog_13_method_1_code 5 = .ok (.iload_n 1, 1) := by decide +kernel
theorem own_init4_6 : decode prog_13_method_1_code 6 = .ok (.putfield 7, 3) := by decide +kernel
theorem own_init4_9 : decode prog_13_method_1_code 9 = .ok (.aload_n 0, 1) := by decide +kernel
theorem own_init4_10 : decode prog_13_method_1_code 10 = .ok (.iload_n 2, 1) := by decide +kernel
theorem own_init4_11 : decode prog_13_method_1_code 11 = .ok (.putfield 13, 3) := by decide +kernel
theorem own_init4_14 : decode prog_13_method_1_code 14 = .ok (.aload_n 0, 1) := by decide +kernel
theorem own_init4_15 : decode prog_13_method_1_code 15 = .ok (.iload_n 3, 1) := by decide +kernel
theorem own_init4_16 : decode prog_13_method_1_code 16 = .ok (.putfield 16, 3) := by decide +kernel
theorem own_init4_19 : decode prog_13_method_1_code 19 = .ok (.aload_n 0, 1) := by decide +kernel
theorem own_init4_20 : decode prog_13_method_1_code 20 = .ok (.iload 4, 2) := by decide +kernel
theorem own_init4_22 : decode prog_13_method_1_code 22 = .ok (.putfield 19, 3) := by decide +kernel
theorem own_init4_25 : decode prog_13_method_1_code 25 = .ok (.aload_n 0, 1) := by decide +kernel
theorem own_init4_26 : decode prog_13_method_1_code 26 = .ok (.iload 5, 2) := by decide +kernel
theorem own_init4_28 : decode prog_13_method_1_code 28 = .ok (.putfield 22, 3) := by decide +kernel
theorem own_init4_31 : decode prog_13_method_1_code 31 = .ok (.aload_n 0, 1) := by decide +kernel
theorem own_init4_32 : decode prog_13_method_1_code 32 = .ok (.iload 6, 2) := by decide +kernel
theorem own_init4_34 : decode prog_13_method_1_code 34 = .ok (.putfield 25, 3) := by decide +kernel
theorem own_init4_37 : decode prog_13_method_1_code 37 = .ok (.return_, 1) := by decide +kernel
theorem own_f5 : plainName "com/example/inch_scaler/inchscaler/FleetSettings" = true := by first | (simp [plainName, overriddenIn]; done) | decide +kernel
theorem own_f6 (m : MethodId) (x0 : Addr) (x1 : Int32) (x2 : Int32) (x3 : Int32) (x4 : Int32) (x5 : Int32) (x6 : Int32) : entryFrame m #[(.ref x0), (.int x1), (.int x2), (.int x3), (.int x4), (.int x5), (.int x6)] 7 = mkF m 0 #[.val (.ref x0), .val (.int x1), .val (.int x2), .val (.int x3), .val (.int x4), .val (.int x5), .val (.int x6)] [] := by first | (simp [entryFrame, mkF, argsToLocals, Value.category]; done) | rfl
set_option maxRecDepth 65536 in
set_option maxHeartbeats 40000000 in
theorem rm_init (l : Launch) (Z : State) (a0 : Array Value) (hw : ∀ d ∈ tables_1, d.before a0 Z = true) (a : Addr) (p1 p2 p3 p4 p5 p6 : Int32) (h0 : Heap) (n0 : Nat) (Z0 : n0 ≤ h0.size) (A : Exa Z h0 a "com/example/inch_scaler/inchscaler/FleetSettings") (ge_a : n0 ≤ a) (F_fronts : Fld Z h0 a "com/example/inch_scaler/inchscaler/FleetSettings" "fronts" "I" (.int (0 : Int32))) (F_apps : Fld Z h0 a "com/example/inch_scaler/inchscaler/FleetSettings" "apps" "I" (.int (0 : Int32))) (F_bootMs : Fld Z h0 a "com/example/inch_scaler/inchscaler/FleetSettings" "bootMs" "I" (.int (0 : Int32))) (F_frontMs : Fld Z h0 a "com/example/inch_scaler/inchscaler/FleetSettings" "frontMs" "I" (.int (0 : Int32))) (F_appMs : Fld Z h0 a "com/example/inch_scaler/inchscaler/FleetSettings" "appMs" "I" (.int (0 : Int32))) (F_deadlineMs : Fld Z h0 a "com/example/inch_scaler/inchscaler/FleetSettings" "deadlineMs" "I" (.int (0 : Int32))) :
    own_Met l Z (⟨"com/example/inch_scaler/inchscaler/FleetSettings", "<init>", "(IIIIII)V"⟩ : MethodName) prog_13_method_1_code 7 none ({ frames := 2, cells := 0, slots := 0, locals := 24 } : Room) #[(.ref a), (.int p1), (.int p2), (.int p3), (.int p4), (.int p5), (.int p6)] h0 (fun v h L => v = none ∧ Fr n0 L ∧ Keep h0 h [a] ∧ Fld Z h a "com/example/inch_scaler/inchscaler/FleetSettings" "deadlineMs" "I" (.int p6)) := by
  refine MetFree.of_bodySF (plainFor_of_name own_f5) hisR ?_
  intro p e s m args below meth c s₁ Bd hml0 hP hK
  obtain ⟨rfl, hZ, hh⟩ := hP
  have hx := Bd.exec
  have hby := Bd.bytes
  have hlk : meth.locks = false := Bd.notSynchronized
  have hml : c.maxLocals = 7 := hml0
  have hown : s.vm.findClass "com/example/inch_scaler/inchscaler/FleetSettings" = some m.cls := findClass_of_methodNamed Bd.named
  have hnm := (name_of_methodNamed Bd.named Bd.method).1
  have X0 : Stand p l e ({ frames := 2, cells := 0, slots := 0, locals := 24 } : Room) s m #[(.ref a), (.int p1), (.int p2), (.int p3), (.int p4), (.int p5), (.int p6)] below meth c s₁ [] 0 0 := Stand.of_body Bd
  have e0 : s₁.heap = h0 := by rw [← hh, Bd.state]; rfl
  show own_Go p e below (own_G s (fun v h L => v = none ∧ Fr n0 L ∧ Keep h0 h [a] ∧ Fld Z h a "com/example/inch_scaler/inchscaler/FleetSettings" "deadlineMs" "I" (.int p6)) 0 0) (s₁.setTop (entryFrame m #[(.ref a), (.int p1), (.int p2), (.int p3), (.int p4), (.int p5), (.int p6)] 7))
  rw [own_f6]
  show own_Go p e below _ (s₁.setTop (mkF m 0 #[.val (.ref a), .val (.int p1), .val (.int p2), .val (.int p3), .val (.int p4), .val (.int p5), .val (.int p6)] []))
  refine own_go (XS.aloadN X0.here hx rfl (hb hby own_init4_0) rfl rfl (Steps.refl _)) ?_
  show own_Go p e below _ (s₁.setTop (mkF m 1 #[.val (.ref a), .val (.int p1), .val (.int p2), .val (.int p3), .val (.int p4), .val (.int p5), .val (.int p6)] [(.ref a)]))
  obtain ⟨_, _, ⟨T2, L2, k2, n2⟩, -, X2, ⟨Lc2, hQ2, l2, y2, z2⟩, st2⟩ := X0.specialBack hx (y := (⟨"java/lang/Record", "<init>", "()V"⟩ : MethodName)) rfl hown (mvT hZ (hw _ (List.mem_of_getElem? (i := 6) rfl))) (mvT hZ (hw _ (List.mem_of_getElem? (i := 7) rfl))) (mvT hZ (hw _ (List.mem_of_getElem? (i := 10) rfl))) (by decide) (own_pays (W := 0) (rm_rec l Z a0 hw a h0 n0 Z0) hZ (hw _ (List.mem_of_getElem? (i := 10) rfl)) (hw _ (List.mem_of_getElem? (i := 9) rfl)) (by decide) (by decide)) (g := (mkF m 1 #[.val (.ref a), .val (.int p1), .val (.int p2), .val (.int p3), .val (.int p4), .val (.int p5), .val (.int p6)] [(.ref a)])) rfl (by rw [hml]; rfl) (Steps.refl _) (a := a) (argsL := []) (rest := []) (lenOf own_f2 rfl) rfl (by show 2 * 0 + _ ≤ _; exact Nat.le_of_eq rfl) (hb hby own_init4_1) (fun _ _ => ⟨rfl, e0, (by decide : 0 + 0 ≤ _), (by decide : 0 + 0 ≤ _)⟩)
  dsimp only [Pt.U, Pt.locs, Pt.cells, Pt.slots] at X2 l2 y2 z2 st2 hQ2
  subst l2 y2 z2
  obtain ⟨rfl, rfl, e2⟩ := hQ2
  try rw [List.append_nil] at X2
  refine own_go st2 ?_
  show own_Go p e below _ (T2.setTop (mkF m 4 #[.val (.ref a), .val (.int p1), .val (.int p2), .val (.int p3), .val (.int p4), .val (.int p5), .val (.int p6)] []))
  refine own_go (XS.aloadN X2.here hx rfl (hb hby own_init4_4) rfl rfl (Steps.refl _)) ?_
  show own_Go p e below _ (T2.setTop (mkF m 5 #[.val (.ref a), .val (.int p1), .val (.int p2), .val (.int p3), .val (.int p4), .val (.int p5), .val (.int p6)] [(.ref a)]))
  refine own_go (XS.iloadN X2.here hx rfl (hb hby own_init4_5) rfl (Steps.refl _)) ?_
  show own_Go p e below _ (T2.setTop (mkF m 6 #[.val (.ref a), .val (.int p1), .val (.int p2), .val (.int p3), .val (.int p4), .val (.int p5), .val (.int p6)] [(.int p1), (.ref a)]))
  obtain ⟨T3, h3, X3, e3, W3, st3⟩ := putF X2 hx hZ hown (host := "") (Or.inl (hw _ (List.mem_of_getElem? (i := 14) rfl))) Via.refl e2 F_fronts A (Or.inr ⟨(hw _ (List.mem_of_getElem? (i := 15) rfl)), rfl, hnm⟩) (hw _ (List.mem_of_getElem? (i := 1) rfl)) (ty := .int) (by decide) rfl rfl (g := (mkF m 6 #[.val (.ref a), .val (.int p1), .val (.int p2), .val (.int p3), .val (.int p4), .val (.int p5), .val (.int p6)] [(.int p1), (.ref a)])) rfl rfl (hb hby own_init4_6)
  have F3 := F_fronts.same W3
  have N3 := Fr.snoc X3 (Fr.nil n0) ge_a
  have Zl3 : n0 ≤ h3.size := Nat.le_trans Z0 (Keep.of_wr W3).1
  have K3 : Keep h0 h3 [a] := (Keep.refl h0 [a]).wr W3 (Or.inl (List.mem_of_getElem? (i := 0) rfl))
  refine own_go (st3 _ (Steps.refl _)) ?_
  show own_Go p e below _ (T3.setTop (mkF m 9 #[.val (.ref a), .val (.int p1), .val (.int p2), .val (.int p3), .val (.int p4), .val (.int p5), .val (.int p6)] []))
  refine own_go (XS.aloadN X3.here hx rfl (hb hby own_init4_9) rfl rfl (Steps.refl _)) ?_
  show own_Go p e below _ (T3.setTop (mkF m 10 #[.val (.ref a), .val (.int p1), .val (.int p2), .val (.int p3), .val (.int p4), .val (.int p5), .val (.int p6)] [(.ref a)]))
  refine own_go (XS.iloadN X3.here hx rfl (hb hby own_init4_10) rfl (Steps.refl _)) ?_
  show own_Go p e below _ (T3.setTop (mkF m 11 #[.val (.ref a), .val (.int p1), .val (.int p2), .val (.int p3), .val (.int p4), .val (.int p5), .val (.int p6)] [(.int p2), (.ref a)]))
  obtain ⟨T4, h4, X4, e4, W4, st4⟩ := putF X3 hx hZ hown (host := "") (Or.inl (hw _ (List.mem_of_getElem? (i := 16) rfl))) Via.refl e3 (F_apps.other W3 (Or.inr (slot_ne (Or.inr (hw _ (List.mem_of_getElem? (i := 17) rfl))) (Or.inr (hw _ (List.mem_of_getElem? (i := 15) rfl))) (by decide) (t := .int) (t' := .int) (by decide) (by decide)))) (A.wr W3) (Or.inr ⟨(hw _ (List.mem_of_getElem? (i := 17) rfl)), rfl, hnm⟩) (hw _ (List.mem_of_getElem? (i := 1) rfl)) (ty := .int) (by decide) rfl rfl (g := (mkF m 11 #[.val (.ref a), .val (.int p1), .val (.int p2), .val (.int p3), .val (.int p4), .val (.int p5), .val (.int p6)] [(.int p2), (.ref a)])) rfl rfl (hb hby own_init4_11)
  have F4 := (F_apps.other W3 (Or.inr (slot_ne (Or.inr (hw _ (List.mem_of_getElem? (i := 17) rfl))) (Or.inr (hw _ (List.mem_of_getElem? (i := 15) rfl))) (by decide) (t := .int) (t' := .int) (by decide) (by decide)))).same W4
  have N4 := Fr.snoc X4 N3 ge_a
  have Zl4 : n0 ≤ h4.size := Nat.le_trans Zl3 (Keep.of_wr W4).1
  have K4 : Keep h0 h4 [a] := K3.wr W4 (Or.inl (List.mem_of_getElem? (i := 0) rfl))
  refine own_go (st4 _ (Steps.refl _)) ?_
  show own_Go p e below _ (T4.setTop (mkF m 14 #[.val (.ref a), .val (.int p1), .val (.int p2), .val (.int p3), .val (.int p4), .val (.int p5), .val (.int p6)] []))
  refine own_go (XS.aloadN X4.here hx rfl (hb hby own_init4_14) rfl rfl (Steps.refl _)) ?_
  show own_Go p e below _ (T4.setTop (mkF m 15 #[.val (.ref a), .val (.int p1), .val (.int p2), .val (.int p3), .val (.int p4), .val (.int p5), .val (.int p6)] [(.ref a)]))
  refine own_go (XS.iloadN X4.here hx rfl (hb hby own_init4_15) rfl (Steps.refl _)) ?_
  show own_Go p e below _ (T4.setTop (mkF m 16 #[.val (.ref a), .val (.int p1), .val (.int p2), .val (.int p3), .val (.int p4), .val (.int p5), .val (.int p6)] [(.int p3), (.ref a)]))
  obtain ⟨T5, h5, X5, e5, W5, st5⟩ := putF X4 hx hZ hown (host := "") (Or.inl (hw _ (List.mem_of_getElem? (i := 18) rfl))) Via.refl e4 ((F_bootMs.other W3 (Or.inr (slot_ne (Or.inr (hw _ (List.mem_of_getElem? (i := 19) rfl))) (Or.inr (hw _ (List.mem_of_getElem? (i := 15) rfl))) (by decide) (t := .int) (t' := .int) (by decide) (by decide)))).other W4 (Or.inr (slot_ne (Or.inr (hw _ (List.mem_of_getElem? (i := 19) rfl))) (Or.inr (hw _ (List.mem_of_getElem? (i := 17) rfl))) (by decide) (t := .int) (t' := .int) (by decide) (by decide)))) ((A.wr W3).wr W4) (Or.inr ⟨(hw _ (List.mem_of_getElem? (i := 19) rfl)), rfl, hnm⟩) (hw _ (List.mem_of_getElem? (i := 1) rfl)) (ty := .int) (by decide) rfl rfl (g := (mkF m 16 #[.val (.ref a), .val (.int p1), .val (.int p2), .val (.int p3), .val (.int p4), .val (.int p5), .val (.int p6)] [(.int p3), (.ref a)])) rfl rfl (hb hby own_init4_16)
  have F5 := ((F_bootMs.other W3 (Or.inr (slot_ne (Or.inr (hw _ (List.mem_of_getElem? (i := 19) rfl))) (Or.inr (hw _ (List.mem_of_getElem? (i := 15) rfl))) (by decide) (t := .int) (t' := .int) (by decide) (by decide)))).other W4 (Or.inr (slot_ne (Or.inr (hw _ (List.mem_of_getElem? (i := 19) rfl))) (Or.inr (hw _ (List.mem_of_getElem? (i := 17) rfl))) (by decide) (t := .int) (t' := .int) (by decide) (by decide)))).same W5
  have N5 := Fr.snoc X5 N4 ge_a
  have Zl5 : n0 ≤ h5.size := Nat.le_trans Zl4 (Keep.of_wr W5).1
  have K5 : Keep h0 h5 [a] := K4.wr W5 (Or.inl (List.mem_of_getElem? (i := 0) rfl))
  refine own_go (st5 _ (Steps.refl _)) ?_
  show own_Go p e below _ (T5.setTop (mkF m 19 #[.val (.ref a), .val (.int p1), .val (.int p2), .val (.int p3), .val (.int p4), .val (.int p5), .val (.int p6)] []))
  refine own_go (XS.aloadN X5.here hx rfl (hb hby own_init4_19) rfl rfl (Steps.refl _)) ?_
  show own_Go p e below _ (T5.setTop (mkF m 20 #[.val (.ref a), .val (.int p1), .val (.int p2), .val (.int p3), .val (.int p4), .val (.int p5), .val (.int p6)] [(.ref a)]))
  refine own_go (XS.iload X5.here hx rfl (hb hby own_init4_20) rfl (Steps.refl _)) ?_
  show own_Go p e below _ (T5.setTop (mkF m 22 #[.val (.ref a), .val (.int p1), .val (.int p2), .val (.int p3), .val (.int p4), .val (.int p5), .val (.int p6)] [(.int p4), (.ref a)]))
  obtain ⟨T6, h6, X6, e6, W6, st6⟩ := putF X5 hx hZ hown (host := "") (Or.inl (hw _ (List.mem_of_getElem? (i := 20) rfl))) Via.refl e5 (((F_frontMs.other W3 (Or.inr (slot_ne (Or.inr (hw _ (List.mem_of_getElem? (i := 21) rfl))) (Or.inr (hw _ (List.mem_of_getElem? (i := 15) rfl))) (by decide) (t := .int) (t' := .int) (by decide) (by decide)))).other W4 (Or.inr (slot_ne (Or.inr (hw _ (List.mem_of_getElem? (i := 21) rfl))) (Or.inr (hw _ (List.mem_of_getElem? (i := 17) rfl))) (by decide) (t := .int) (t' := .int) (by decide) (by decide)))).other W5 (Or.inr (slot_ne (Or.inr (hw _ (List.mem_of_getElem? (i := 21) rfl))) (Or.inr (hw _ (List.mem_of_getElem? (i := 19) rfl))) (by decide) (t := .int) (t' := .int) (by decide) (by decide)))) (((A.wr W3).wr W4).wr W5) (Or.inr ⟨(hw _ (List.mem_of_getElem? (i := 21) rfl)), rfl, hnm⟩) (hw _ (List.mem_of_getElem? (i := 1) rfl)) (ty := .int) (by decide) rfl rfl (g := (mkF m 22 #[.val (.ref a), .val (.int p1), .val (.int p2), .val (.int p3), .val (.int p4), .val (.int p5), .val (.int p6)] [(.int p4), (.ref a)])) rfl rfl (hb hby own_init4_22)
  have F6 := (((F_frontMs.other W3 (Or.inr (slot_ne (Or.inr (hw _ (List.mem_of_getElem? (i := 21) rfl))) (Or.inr (hw _ (List.mem_of_getElem? (i := 15) rfl))) (by decide) (t := .int) (t' := .int) (by decide) (by decide)))).other W4 (Or.inr (slot_ne (Or.inr (hw _ (List.mem_of_getElem? (i := 21) rfl))) (Or.inr (hw _ (List.mem_of_getElem? (i := 17) rfl))) (by decide) (t := .int) (t' := .int) (by decide) (by decide)))).other W5 (Or.inr (slot_ne (Or.inr (hw _ (List.mem_of_getElem? (i := 21) rfl))) (Or.inr (hw _ (List.mem_of_getElem? (i := 19) rfl))) (by decide) (t := .int) (t' := .int) (by decide) (by decide)))).same W6
  have N6 := Fr.snoc X6 N5 ge_a
  have Zl6 : n0 ≤ h6.size := Nat.le_trans Zl5 (Keep.of_wr W6).1
  have K6 : Keep h0 h6 [a] := K5.wr W6 (Or.inl (List.mem_of_getElem? (i := 0) rfl))
  refine own_go (st6 _ (Steps.refl _)) ?_
  show own_Go p e below _ (T6.setTop (mkF m 25 #[.val (.ref a), .val (.int p1), .val (.int p2), .val (.int p3), .val (.int p4), .val (.int p5), .val (.int p6)] []))
  refine own_go (XS.aloadN X6.here hx rfl (hb hby own_init4_25) rfl rfl (Steps.refl _)) ?_
  show own_Go p e below _ (T6.setTop (mkF m 26 #[.val (.ref a), .val (.int p1), .val (.int p2), .val (.int p3), .val (.int p4), .val (.int p5), .val (.int p6)] [(.ref a)]))
  refine own_go (XS.iload X6.here hx rfl (hb hby own_init4_26) rfl (Steps.refl _)) ?_
  show own_Go p e below _ (T6.setTop (mkF m 28 #[.val (.ref a), .val (.int p1), .val (.int p2), .val (.int p3), .val (.int p4), .val (.int p5), .val (.int p6)] [(.int p5), (.ref a)]))
  obtain ⟨T7, h7, X7, e7, W7, st7⟩ := putF X6 hx hZ hown (host := "") (Or.inl (hw _ (List.mem_of_getElem? (i := 22) rfl))) Via.refl e6 ((((F_appMs.other W3 (Or.inr (slot_ne (Or.inr (hw _ (List.mem_of_getElem? (i := 23) rfl))) (Or.inr (hw _ (List.mem_of_getElem? (i := 15) rfl))) (by decide) (t := .int) (t' := .int) (by decide) (by decide)))).other W4 (Or.inr (slot_ne (Or.inr (hw _ (List.mem_of_getElem? (i := 23) rfl))) (Or.inr (hw _ (List.mem_of_getElem? (i := 17) rfl))) (by decide) (t := .int) (t' := .int) (by decide) (by decide)))).other W5 (Or.inr (slot_ne (Or.inr (hw _ (List.mem_of_getElem? (i := 23) rfl))) (Or.inr (hw _ (List.mem_of_getElem? (i := 19) rfl))) (by decide) (t := .int) (t' := .int) (by decide) (by decide)))).other W6 (Or.inr (slot_ne (Or.inr (hw _ (List.mem_of_getElem? (i := 23) rfl))) (Or.inr (hw _ (List.mem_of_getElem? (i := 21) rfl))) (by decide) (t := .int) (t' := .int) (by decide) (by decide)))) ((((A.wr W3).wr W4).wr W5).wr W6) (Or.inr ⟨(hw _ (List.mem_of_getElem? (i := 23) rfl)), rfl, hnm⟩) (hw _ (List.mem_of_getElem? (i := 1) rfl)) (ty := .int) (by decide) rfl rfl (g := (mkF m 28 #[.val (.ref a), .val (.int p1), .val (.int p2), .val (.int p3), .val (.int p4), .val (.int p5), .val (.int p6)] [(.int p5), (.ref a)])) rfl rfl (hb hby own_init4_28)
  have F7 := ((((F_appMs.other W3 (Or.inr (slot_ne (Or.inr (hw _ (List.mem_of_getElem? (i := 23) rfl))) (Or.inr (hw _ (List.mem_of_getElem? (i := 15) rfl))) (by decide) (t := .int) (t' := .int) (by decide) (by decide)))).other W4 (Or.inr (slot_ne (Or.inr (hw _ (List.mem_of_getElem? (i := 23) rfl))) (Or.inr (hw _ (List.mem_of_getElem? (i := 17) rfl))) (by decide) (t := .int) (t' := .int) (by decide) (by decide)))).other W5 (Or.inr (slot_ne (Or.inr (hw _ (List.mem_of_getElem? (i := 23) rfl))) (Or.inr (hw _ (List.mem_of_getElem? (i := 19) rfl))) (by decide) (t := .int) (t' := .int) (by decide) (by decide)))).other W6 (Or.inr (slot_ne (Or.inr (hw _ (List.mem_of_getElem? (i := 23) rfl))) (Or.inr (hw _ (List.mem_of_getElem? (i := 21) rfl))) (by decide) (t := .int) (t' := .int) (by decide) (by decide)))).same W7
  have N7 := Fr.snoc X7 N6 ge_a
  have Zl7 : n0 ≤ h7.size := Nat.le_trans Zl6 (Keep.of_wr W7).1
  have K7 : Keep h0 h7 [a] := K6.wr W7 (Or.inl (List.mem_of_getElem? (i := 0) rfl))
  refine own_go (st7 _ (Steps.refl _)) ?_
  show own_Go p e below _ (T7.setTop (mkF m 31 #[.val (.ref a), .val (.int p1), .val (.int p2), .val (.int p3), .val (.int p4), .val (.int p5), .val (.int p6)] []))
  refine own_go (XS.aloadN X7.here hx rfl (hb hby own_init4_31) rfl rfl (Steps.refl _)) ?_
  show own_Go p e below _ (T7.setTop (mkF m 32 #[.val (.ref a), .val (.int p1), .val (.int p2), .val (.int p3), .val (.int p4), .val (.int p5), .val (.int p6)] [(.ref a)]))
  refine own_go (XS.iload X7.here hx rfl (hb hby own_init4_32) rfl (Steps.refl _)) ?_
  show own_Go p e below _ (T7.setTop (mkF m 34 #[.val (.ref a), .val (.int p1), .val (.int p2), .val (.int p3), .val (.int p4), .val (.int p5), .val (.int p6)] [(.int p6), (.ref a)]))
  obtain ⟨T8, h8, X8, e8, W8, st8⟩ := putF X7 hx hZ hown (host := "") (Or.inl (hw _ (List.mem_of_getElem? (i := 24) rfl))) Via.refl e7 (((((F_deadlineMs.other W3 (Or.inr (slot_ne (Or.inr (hw _ (List.mem_of_getElem? (i := 25) rfl))) (Or.inr (hw _ (List.mem_of_getElem? (i := 15) rfl))) (by decide) (t := .int) (t' := .int) (by decide) (by decide)))).other W4 (Or.inr (slot_ne (Or.inr (hw _ (List.mem_of_getElem? (i := 25) rfl))) (Or.inr (hw _ (List.mem_of_getElem? (i := 17) rfl))) (by decide) (t := .int) (t' := .int) (by decide) (by decide)))).other W5 (Or.inr (slot_ne (Or.inr (hw _ (List.mem_of_getElem? (i := 25) rfl))) (Or.inr (hw _ (List.mem_of_getElem? (i := 19) rfl))) (by decide) (t := .int) (t' := .int) (by decide) (by decide)))).other W6 (Or.inr (slot_ne (Or.inr (hw _ (List.mem_of_getElem? (i := 25) rfl))) (Or.inr (hw _ (List.mem_of_getElem? (i := 21) rfl))) (by decide) (t := .int) (t' := .int) (by decide) (by decide)))).other W7 (Or.inr (slot_ne (Or.inr (hw _ (List.mem_of_getElem? (i := 25) rfl))) (Or.inr (hw _ (List.mem_of_getElem? (i := 23) rfl))) (by decide) (t := .int) (t' := .int) (by decide) (by decide)))) (((((A.wr W3).wr W4).wr W5).wr W6).wr W7) (Or.inr ⟨(hw _ (List.mem_of_getElem? (i := 25) rfl)), rfl, hnm⟩) (hw _ (List.mem_of_getElem? (i := 1) rfl)) (ty := .int) (by decide) rfl rfl (g := (mkF m 34 #[.val (.ref a), .val (.int p1), .val (.int p2), .val (.int p3), .val (.int p4), .val (.int p5), .val (.int p6)] [(.int p6), (.ref a)])) rfl rfl (hb hby own_init4_34)
  have F8 := (((((F_deadlineMs.other W3 (Or.inr (slot_ne (Or.inr (hw _ (List.mem_of_getElem? (i := 25) rfl))) (Or.inr (hw _ (List.mem_of_getElem? (i := 15) rfl))) (by decide) (t := .int) (t' := .int) (by decide) (by decide)))).other W4 (Or.inr (slot_ne (Or.inr (hw _ (List.mem_of_getElem? (i := 25) rfl))) (Or.inr (hw _ (List.mem_of_getElem? (i := 17) rfl))) (by decide) (t := .int) (t' := .int) (by decide) (by decide)))).other W5 (Or.inr (slot_ne (Or.inr (hw _ (List.mem_of_getElem? (i := 25) rfl))) (Or.inr (hw _ (List.mem_of_getElem? (i := 19) rfl))) (by decide) (t := .int) (t' := .int) (by decide) (by decide)))).other W6 (Or.inr (slot_ne (Or.inr (hw _ (List.mem_of_getElem? (i := 25) rfl))) (Or.inr (hw _ (List.mem_of_getElem? (i := 21) rfl))) (by decide) (t := .int) (t' := .int) (by decide) (by decide)))).other W7 (Or.inr (slot_ne (Or.inr (hw _ (List.mem_of_getElem? (i := 25) rfl))) (Or.inr (hw _ (List.mem_of_getElem? (i := 23) rfl))) (by decide) (t := .int) (t' := .int) (by decide) (by decide)))).same W8
  have N8 := Fr.snoc X8 N7 ge_a
  have Zl8 : n0 ≤ h8.size := Nat.le_trans Zl7 (Keep.of_wr W8).1
  have K8 : Keep h0 h8 [a] := K7.wr W8 (Or.inl (List.mem_of_getElem? (i := 0) rfl))
  refine own_go (st8 _ (Steps.refl _)) ?_
  show own_Go p e below _ (T8.setTop (mkF m 37 #[.val (.ref a), .val (.int p1), .val (.int p2), .val (.int p3), .val (.int p4), .val (.int p5), .val (.int p6)] []))
  exact own_retV X8 hx hlk e8 Bd.returns (hb hby own_init4_37) ⟨rfl, N8, K8, F8⟩ (by decide) (by decide)
theorem own_inTime_0 : decode prog_13_method_2_code 0 = .ok (.lload_n 1, 1) := by decide +kernel
theorem own_inTime_1 : decode prog_13_method_2_code 1 = .ok (.aload_n 0, 1) := by decide +kernel
theorem own_inTime_2 : decode prog_13_method_2_code 2 = .ok (.getfield 25, 3) := by decide +kernel
theorem own_inTime_5 : decode prog_13_method_2_code 5 = .ok (.i2l, 1) := by decide +kernel
theorem own_inTime_6 : decode prog_13_method_2_code 6 = .ok (.lcmp, 1) := by decide +kernel
theorem own_inTime_7 : decode prog_13_method_2_code 7 = .ok (.ifCond .gt 7, 3) := by decide +kernel
theorem own_inTime_10 : decode prog_13_method_2_code 10 = .ok (.iconst 1, 1) := by decide +kernel
theorem own_inTime_11 : decode prog_13_method_2_code 11 = .ok (.goto 4, 3) := by decide +kernel
theorem own_inTime_14 : decode prog_13_method_2_code 14 = .ok (.iconst 0, 1) := by decide +kernel
theorem own_inTime_15 : decode prog_13_method_2_code 15 = .ok (.ireturn, 1) := by decide +kernel
theorem own_f8 (m : MethodId) (x0 : Addr) (x1 : Int64) : entryFrame m #[(.ref x0), (.long x1)] 3 = mkF m 0 #[.val (.ref x0), .val (.long x1), .second] [] := by first | (simp [entryFrame, mkF, argsToLocals, Value.category]; done) | rfl
set_option maxRecDepth 65536 in
set_option maxHeartbeats 40000000 in
theorem rm_in (l : Launch) (Z : State) (a0 : Array Value) (hw : ∀ d ∈ tables_1, d.before a0 Z = true) (a : Addr) (d : Int32) (q : Int64) (h0 : Heap) (n0 : Nat) (Z0 : n0 ≤ h0.size) (F : Fld Z h0 a "com/example/inch_scaler/inchscaler/FleetSettings" "deadlineMs" "I" (.int d)) :
    own_Met l Z (⟨"com/example/inch_scaler/inchscaler/FleetSettings", "inTime", "(J)Z"⟩ : MethodName) prog_13_method_2_code 3 (some .boolean) ({ frames := 0, cells := 0, slots := 0, locals := 0 } : Room) #[(.ref a), (.long q)] h0 (fun v h L => v = some (.int (own_b (¬ (d.toInt64) < q))) ∧ L = [] ∧ h = h0) := by
  refine MetFree.of_bodySF (plainFor_of_name own_f5) hisR ?_
  intro p e s m args below meth c s₁ Bd hml0 hP hK
  obtain ⟨rfl, hZ, hh⟩ := hP
  have hx := Bd.exec
  have hby := Bd.bytes
  have hlk : meth.locks = false := Bd.notSynchronized
  have hml : c.maxLocals = 3 := hml0
  have hown : s.vm.findClass "com/example/inch_scaler/inchscaler/FleetSettings" = some m.cls := findClass_of_methodNamed Bd.named
  have hnm := (name_of_methodNamed Bd.named Bd.method).1
  have X0 : Stand p l e ({ frames := 0, cells := 0, slots := 0, locals := 0 } : Room) s m #[(.ref a), (.long q)] below meth c s₁ [] 0 0 := Stand.of_body Bd
  have e0 : s₁.heap = h0 := by rw [← hh, Bd.state]; rfl
  show own_Go p e below (own_G s (fun v h L => v = some (.int (own_b (¬ (d.toInt64) < q))) ∧ L = [] ∧ h = h0) 0 0) (s₁.setTop (entryFrame m #[(.ref a), (.long q)] 3))
  rw [own_f8]
  show own_Go p e below _ (s₁.setTop (mkF m 0 #[.val (.ref a), .val (.long q), .second] []))
  refine own_go (XS.lloadN X0.here hx rfl (hb hby own_inTime_0) rfl (Steps.refl _)) ?_
  show own_Go p e below _ (s₁.setTop (mkF m 1 #[.val (.ref a), .val (.long q), .second] [(.long q)]))
  refine own_go (XS.aloadN X0.here hx rfl (hb hby own_inTime_1) rfl rfl (Steps.refl _)) ?_
  show own_Go p e below _ (s₁.setTop (mkF m 2 #[.val (.ref a), .val (.long q), .second] [(.ref a), (.long q)]))
  obtain ⟨T9, X9, e9, st9⟩ := getF X0 hx hZ hown (host := "") (Or.inl (hw _ (List.mem_of_getElem? (i := 24) rfl))) Via.refl e0 F (g := (mkF m 2 #[.val (.ref a), .val (.long q), .second] [(.ref a), (.long q)])) rfl rfl (hb hby own_inTime_2)
  refine own_go (st9 _ (Steps.refl _)) ?_
  show own_Go p e below _ (T9.setTop (mkF m 5 #[.val (.ref a), .val (.long q), .second] [(.int d), (.long q)]))
  refine own_go (XS.i2l X9.here hx rfl (hb hby own_inTime_5) rfl (Steps.refl _)) ?_
  show own_Go p e below _ (T9.setTop (mkF m 6 #[.val (.ref a), .val (.long q), .second] [(.long (d.toInt64)), (.long q)]))
  refine own_go (XS.lcmp X9.here hx rfl (hb hby own_inTime_6) rfl (Steps.refl _)) ?_
  show own_Go p e below _ (T9.setTop (mkF m 7 #[.val (.ref a), .val (.long q), .second] [(.int (lcmpW q (d.toInt64)))]))
  by_cases hc7 : (d.toInt64) < q
  · refine own_go (XS.ifYes X9.here hx rfl (pc0 := 7) (pc' := 14) rfl (hb hby own_inTime_7) rfl (own_tgtJ hc7).1 (by decide) (by decide) (Steps.refl _)) ?_
    show own_Go p e below _ (T9.setTop (mkF m 14 #[.val (.ref a), .val (.long q), .second] []))
    refine own_go (XS.iconst X9.here hx rfl (hb hby own_inTime_14) (Steps.refl _)) ?_
    show own_Go p e below _ (T9.setTop (mkF m 15 #[.val (.ref a), .val (.long q), .second] [(.int (0 : Int32))]))
    exact own_retZ X9 hx hlk e9 Bd.returns (hb hby own_inTime_15) (Or.inl rfl) ⟨congrArg (fun u => some (Value.int u)) ((own_b_f (by simp [hc7])).symm), rfl, rfl⟩ (by decide) (by decide)
  · refine own_go (XS.ifNo X9.here hx rfl (hb hby own_inTime_7) rfl (own_fgtJ hc7).1 (Steps.refl _)) ?_
    show own_Go p e below _ (T9.setTop (mkF m 10 #[.val (.ref a), .val (.long q), .second] []))
    refine own_go (XS.iconst X9.here hx rfl (hb hby own_inTime_10) (Steps.refl _)) ?_
    show own_Go p e below _ (T9.setTop (mkF m 11 #[.val (.ref a), .val (.long q), .second] [(.int (1 : Int32))]))
    refine own_go (XS.goto X9.here hx rfl (pc0 := 11) (pc' := 15) rfl (hb hby own_inTime_11) (by decide) (by decide) (Steps.refl _)) ?_
    show own_Go p e below _ (T9.setTop (mkF m 15 #[.val (.ref a), .val (.long q), .second] [(.int (1 : Int32))]))
    exact own_retZ X9 hx hlk e9 Bd.returns (hb hby own_inTime_15) (Or.inr rfl) ⟨congrArg (fun u => some (Value.int u)) ((own_b_t (by simp [hc7])).symm), rfl, rfl⟩ (by decide) (by decide)
theorem own_min_0 : decode jdk_29_method_70_code 0 = .ok (.lload_n 0, 1) := by decide +kernel
theorem own_min_1 : decode jdk_29_method_70_code 1 = .ok (.lload_n 2, 1) := by decide +kernel
theorem own_min_2 : decode jdk_29_method_70_code 2 = .ok (.lcmp, 1) := by decide +kernel
theorem own_min_3 : decode jdk_29_method_70_code 3 = .ok (.ifCond .gt 7, 3) := by decide +kernel
theorem own_min_6 : decode jdk_29_method_70_code 6 = .ok (.lload_n 0, 1) := by decide +kernel
theorem own_min_7 : decode jdk_29_method_70_code 7 = .ok (.goto 4, 3) := by decide +kernel
theorem own_min_10 : decode jdk_29_method_70_code 10 = .ok (.lload_n 2, 1) := by decide +kernel
theorem own_min_11 : decode jdk_29_method_70_code 11 = .ok (.lreturn, 1) := by decide +kernel
theorem own_f10 (m : MethodId) (x0 : Int64) (x1 : Int64) : entryFrame m #[(.long x0), (.long x1)] 4 = mkF m 0 #[.val (.long x0), .second, .val (.long x1), .second] [] := by first | (simp [entryFrame, mkF, argsToLocals, Value.category]; done) | rfl
set_option maxRecDepth 65536 in
set_option maxHeartbeats 40000000 in
theorem rm_min (l : Launch) (Z : State) (a0 : Array Value) (hw : ∀ d ∈ tables_1, d.before a0 Z = true) (x1 y1 : Int64) (h0 : Heap) (n0 : Nat) (Z0 : n0 ≤ h0.size)  :
    own_Met l Z (⟨"java/lang/Math", "min", "(JJ)J"⟩ : MethodName) jdk_29_method_70_code 4 (some .long) ({ frames := 0, cells := 0, slots := 0, locals := 0 } : Room) #[(.long x1), (.long y1)] h0 (fun v h L => v = some (.long (own_min x1 y1)) ∧ L = [] ∧ h = h0) := by
  refine MetFree.of_bodySF (Jvm.Free.JP.mathPlain rfl (by decide +kernel)) hisR ?_
  intro p e s m args below meth c s₁ Bd hml0 hP hK
  obtain ⟨rfl, hZ, hh⟩ := hP
  have hx := Bd.exec
  have hby := Bd.bytes
  have hlk : meth.locks = false := Bd.notSynchronized
  have hml : c.maxLocals = 4 := hml0
  have hown : s.vm.findClass "java/lang/Math" = some m.cls := findClass_of_methodNamed Bd.named
  have hnm := (name_of_methodNamed Bd.named Bd.method).1
  have X0 : Stand p l e ({ frames := 0, cells := 0, slots := 0, locals := 0 } : Room) s m #[(.long x1), (.long y1)] below meth c s₁ [] 0 0 := Stand.of_body Bd
  have e0 : s₁.heap = h0 := by rw [← hh, Bd.state]; rfl
  show own_Go p e below (own_G s (fun v h L => v = some (.long (own_min x1 y1)) ∧ L = [] ∧ h = h0) 0 0) (s₁.setTop (entryFrame m #[(.long x1), (.long y1)] 4))
  rw [own_f10]
  show own_Go p e below _ (s₁.setTop (mkF m 0 #[.val (.long x1), .second, .val (.long y1), .second] []))
  refine own_go (XS.lloadN X0.here hx rfl (hb hby own_min_0) rfl (Steps.refl _)) ?_
  show own_Go p e below _ (s₁.setTop (mkF m 1 #[.val (.long x1), .second, .val (.long y1), .second] [(.long x1)]))
  refine own_go (XS.lloadN X0.here hx rfl (hb hby own_min_1) rfl (Steps.refl _)) ?_
  show own_Go p e below _ (s₁.setTop (mkF m 2 #[.val (.long x1), .second, .val (.long y1), .second] [(.long y1), (.long x1)]))
  refine own_go (XS.lcmp X0.here hx rfl (hb hby own_min_2) rfl (Steps.refl _)) ?_
  show own_Go p e below _ (s₁.setTop (mkF m 3 #[.val (.long x1), .second, .val (.long y1), .second] [(.int (lcmpW x1 y1))]))
  by_cases hc3 : y1 < x1
  · refine own_go (XS.ifYes X0.here hx rfl (pc0 := 3) (pc' := 10) rfl (hb hby own_min_3) rfl (own_tgtJ hc3).1 (by decide) (by decide) (Steps.refl _)) ?_
    show own_Go p e below _ (s₁.setTop (mkF m 10 #[.val (.long x1), .second, .val (.long y1), .second] []))
    refine own_go (XS.lloadN X0.here hx rfl (hb hby own_min_10) rfl (Steps.refl _)) ?_
    show own_Go p e below _ (s₁.setTop (mkF m 11 #[.val (.long x1), .second, .val (.long y1), .second] [(.long y1)]))
    exact own_retJ X0 hx hlk e0 Bd.returns (hb hby own_min_11) ⟨congrArg (fun u => some (Value.long u)) (by simp [own_min, hc3]), rfl, rfl⟩ (by decide) (by decide)
  · refine own_go (XS.ifNo X0.here hx rfl (hb hby own_min_3) rfl (own_fgtJ hc3).1 (Steps.refl _)) ?_
    show own_Go p e below _ (s₁.setTop (mkF m 6 #[.val (.long x1), .second, .val (.long y1), .second] []))
    refine own_go (XS.lloadN X0.here hx rfl (hb hby own_min_6) rfl (Steps.refl _)) ?_
    show own_Go p e below _ (s₁.setTop (mkF m 7 #[.val (.long x1), .second, .val (.long y1), .second] [(.long x1)]))
    refine own_go (XS.goto X0.here hx rfl (pc0 := 7) (pc' := 11) rfl (hb hby own_min_7) (by decide) (by decide) (Steps.refl _)) ?_
    show own_Go p e below _ (s₁.setTop (mkF m 11 #[.val (.long x1), .second, .val (.long y1), .second] [(.long x1)]))
    exact own_retJ X0 hx hlk e0 Bd.returns (hb hby own_min_11) ⟨congrArg (fun u => some (Value.long u)) (by simp [own_min, hc3]), rfl, rfl⟩ (by decide) (by decide)
theorem own_max_0 : decode jdk_29_method_66_code 0 = .ok (.lload_n 0, 1) := by decide +kernel
theorem own_max_1 : decode jdk_29_method_66_code 1 = .ok (.lload_n 2, 1) := by decide +kernel
theorem own_max_2 : decode jdk_29_method_66_code 2 = .ok (.lcmp, 1) := by decide +kernel
theorem own_max_3 : decode jdk_29_method_66_code 3 = .ok (.ifCond .lt 7, 3) := by decide +kernel
theorem own_max_6 : decode jdk_29_method_66_code 6 = .ok (.lload_n 0, 1) := by decide +kernel
theorem own_max_7 : decode jdk_29_method_66_code 7 = .ok (.goto 4, 3) := by decide +kernel
theorem own_max_10 : decode jdk_29_method_66_code 10 = .ok (.lload_n 2, 1) := by decide +kernel
theorem own_max_11 : decode jdk_29_method_66_code 11 = .ok (.lreturn, 1) := by decide +kernel
set_option maxRecDepth 65536 in
set_option maxHeartbeats 40000000 in
theorem rm_max (l : Launch) (Z : State) (a0 : Array Value) (hw : ∀ d ∈ tables_1, d.before a0 Z = true) (x1 y1 : Int64) (h0 : Heap) (n0 : Nat) (Z0 : n0 ≤ h0.size)  :
    own_Met l Z (⟨"java/lang/Math", "max", "(JJ)J"⟩ : MethodName) jdk_29_method_66_code 4 (some .long) ({ frames := 0, cells := 0, slots := 0, locals := 0 } : Room) #[(.long x1), (.long y1)] h0 (fun v h L => v = some (.long (own_max x1 y1)) ∧ L = [] ∧ h = h0) := by
  refine MetFree.of_bodySF (Jvm.Free.JP.mathPlain rfl (by decide +kernel)) hisR ?_
  intro p e s m args below meth c s₁ Bd hml0 hP hK
  obtain ⟨rfl, hZ, hh⟩ := hP
  have hx := Bd.exec
  have hby := Bd.bytes
  have hlk : meth.locks = false := Bd.notSynchronized
  have hml : c.maxLocals = 4 := hml0
  have hown : s.vm.findClass "java/lang/Math" = some m.cls := findClass_of_methodNamed Bd.named
  have hnm := (name_of_methodNamed Bd.named Bd.method).1
  have X0 : Stand p l e ({ frames := 0, cells := 0, slots := 0, locals := 0 } : Room) s m #[(.long x1), (.long y1)] below meth c s₁ [] 0 0 := Stand.of_body Bd
  have e0 : s₁.heap = h0 := by rw [← hh, Bd.state]; rfl
  show own_Go p e below (own_G s (fun v h L => v = some (.long (own_max x1 y1)) ∧ L = [] ∧ h = h0) 0 0) (s₁.setTop (entryFrame m #[(.long x1), (.long y1)] 4))
  rw [own_f10]
  show own_Go p e below _ (s₁.setTop (mkF m 0 #[.val (.long x1), .second, .val (.long y1), .second] []))
  refine own_go (XS.lloadN X0.here hx rfl (hb hby own_max_0) rfl (Steps.refl _)) ?_
  show own_Go p e below _ (s₁.setTop (mkF m 1 #[.val (.long x1), .second, .val (.long y1), .second] [(.long x1)]))
  refine own_go (XS.lloadN X0.here hx rfl (hb hby own_max_1) rfl (Steps.refl _)) ?_
  show own_Go p e below _ (s₁.setTop (mkF m 2 #[.val (.long x1), .second, .val (.long y1), .second] [(.long y1), (.long x1)]))
  refine own_go (XS.lcmp X0.here hx rfl (hb hby own_max_2) rfl (Steps.refl _)) ?_
  show own_Go p e below _ (s₁.setTop (mkF m 3 #[.val (.long x1), .second, .val (.long y1), .second] [(.int (lcmpW x1 y1))]))
  by_cases hc3 : x1 < y1
  · refine own_go (XS.ifYes X0.here hx rfl (pc0 := 3) (pc' := 10) rfl (hb hby own_max_3) rfl (own_tltJ hc3).1 (by decide) (by decide) (Steps.refl _)) ?_
    show own_Go p e below _ (s₁.setTop (mkF m 10 #[.val (.long x1), .second, .val (.long y1), .second] []))
    refine own_go (XS.lloadN X0.here hx rfl (hb hby own_max_10) rfl (Steps.refl _)) ?_
    show own_Go p e below _ (s₁.setTop (mkF m 11 #[.val (.long x1), .second, .val (.long y1), .second] [(.long y1)]))
    exact own_retJ X0 hx hlk e0 Bd.returns (hb hby own_max_11) ⟨congrArg (fun u => some (Value.long u)) (by simp [own_max, hc3]), rfl, rfl⟩ (by decide) (by decide)
  · refine own_go (XS.ifNo X0.here hx rfl (hb hby own_max_3) rfl (own_fltJ hc3).1 (Steps.refl _)) ?_
    show own_Go p e below _ (s₁.setTop (mkF m 6 #[.val (.long x1), .second, .val (.long y1), .second] []))
    refine own_go (XS.lloadN X0.here hx rfl (hb hby own_max_6) rfl (Steps.refl _)) ?_
    show own_Go p e below _ (s₁.setTop (mkF m 7 #[.val (.long x1), .second, .val (.long y1), .second] [(.long x1)]))
    refine own_go (XS.goto X0.here hx rfl (pc0 := 7) (pc' := 11) rfl (hb hby own_max_7) (by decide) (by decide) (Steps.refl _)) ?_
    show own_Go p e below _ (s₁.setTop (mkF m 11 #[.val (.long x1), .second, .val (.long y1), .second] [(.long x1)]))
    exact own_retJ X0 hx hlk e0 Bd.returns (hb hby own_max_11) ⟨congrArg (fun u => some (Value.long u)) (by simp [own_max, hc3]), rfl, rfl⟩ (by decide) (by decide)
theorem own_f12 : plainName "com/example/inch_scaler/inchscaler/FleetSettingsInTimePinLaw" = true := by first | (simp [plainName, overriddenIn]; done) | decide +kernel
theorem own_f13 : parseMethodDescriptor "(IIIIII)V" = some ⟨[.int, .int, .int, .int, .int, .int], none⟩ := by decide +kernel
theorem own_f14 : parseMethodDescriptor "(J)Z" = some ⟨[.long], some .boolean⟩ := by decide +kernel
theorem own_f15 : parseMethodDescriptor "(JJ)J" = some ⟨[.long, .long], some .long⟩ := by decide +kernel
theorem own_f16 (m : MethodId) (x0 : Int32) (x1 : Int32) (x2 : Int32) (x3 : Int32) (x4 : Int64) (x5 : Int64) : entryFrame m #[(.int x0), (.int x1), (.int x2), (.int x3), (.long x4), (.long x5)] maxLocals = mkF m 0 #[.val (.int x0), .val (.int x1), .val (.int x2), .val (.int x3), .val (.long x4), .second, .val (.long x5), .second, .unset, .unset, .unset, .unset, .unset, .unset, .unset, .unset, .unset, .unset, .unset, .unset] [] := by first | (simp [entryFrame, mkF, argsToLocals, Value.category, maxLocals]; done) | rfl
set_option maxRecDepth 65536 in
set_option maxHeartbeats 40000000 in
theorem rm_law (l : Launch) (Z : State) (a0 : Array Value) (hw : ∀ d ∈ tables_1, d.before a0 Z = true) (p1 p2 p3 p4 : Int32) (r1 r2 : Int64) (h0 : Heap) (n0 : Nat) (Z0 : n0 ≤ h0.size)  :
    own_MetL l Z (#[(.int p1), (.int p2), (.int p3), (.int p4), (.long r1), (.long r2)]) h0 (fun v h L => v = some (.int 1) ∧ Fr n0 L) := by
  refine MetFree.of_bodySF (plainFor_of_name own_f12) hisR ?_
  intro p e s m args below meth c s₁ Bd hml0 hP hK
  obtain ⟨rfl, hZ, hh⟩ := hP
  have hx := Bd.exec
  have hby := Bd.bytes
  have hlk : meth.locks = false := Bd.notSynchronized
  have hml : c.maxLocals = 20 := hml0
  have hown : s.vm.findClass "com/example/inch_scaler/inchscaler/FleetSettingsInTimePinLaw" = some m.cls := findClass_of_methodNamed Bd.named
  have hnm := (name_of_methodNamed Bd.named Bd.method).1
  have X0 : Stand p l e room_1 s m #[(.int p1), (.int p2), (.int p3), (.int p4), (.long r1), (.long r2)] below meth c s₁ [] 0 0 := Stand.of_body Bd
  have e0 : s₁.heap = h0 := by rw [← hh, Bd.state]; rfl
  show own_Go p e below (own_G s (fun v h L => v = some (.int 1) ∧ Fr n0 L) room_1.cells room_1.slots) (s₁.setTop (entryFrame m #[(.int p1), (.int p2), (.int p3), (.int p4), (.long r1), (.long r2)] maxLocals))
  rw [own_f16]
  show own_Go p e below _ (s₁.setTop (mkF m 0 #[.val (.int p1), .val (.int p2), .val (.int p3), .val (.int p4), .val (.long r1), .second, .val (.long r2), .second, .unset, .unset, .unset, .unset, .unset, .unset, .unset, .unset, .unset, .unset, .unset, .unset] []))
  obtain ⟨T10, h10, b10, g10, X10, e10, E10, A10, D10, st10⟩ := own_newO X0 hx hZ hown (hw _ (List.mem_of_getElem? (i := 0) rfl)) (hw _ (List.mem_of_getElem? (i := 1) rfl)) (hw _ (List.mem_of_getElem? (i := 2) rfl)) e0 (g := (mkF m 0 #[.val (.int p1), .val (.int p2), .val (.int p3), .val (.int p4), .val (.long r1), .second, .val (.long r2), .second, .unset, .unset, .unset, .unset, .unset, .unset, .unset, .unset, .unset, .unset, .unset, .unset] [])) rfl (hb hby at_0) (by decide) (by decide)
  have ge_b10 : n0 ≤ b10 := Nat.le_trans Z0 (Nat.le_of_eq g10.symm)
  have Zl10 : n0 ≤ h10.size := Nat.le_trans Z0 E10.1
  have F10_fronts : Fld Z h10 b10 "com/example/inch_scaler/inchscaler/FleetSettings" "fronts" "I" (.int (0 : Int32)) := D10 (Or.inr (hw _ (List.mem_of_getElem? (i := 15) rfl))) (ty := .int) (by decide)
  have F10_apps : Fld Z h10 b10 "com/example/inch_scaler/inchscaler/FleetSettings" "apps" "I" (.int (0 : Int32)) := D10 (Or.inr (hw _ (List.mem_of_getElem? (i := 17) rfl))) (ty := .int) (by decide)
  have F10_bootMs : Fld Z h10 b10 "com/example/inch_scaler/inchscaler/FleetSettings" "bootMs" "I" (.int (0 : Int32)) := D10 (Or.inr (hw _ (List.mem_of_getElem? (i := 19) rfl))) (ty := .int) (by decide)
  have F10_frontMs : Fld Z h10 b10 "com/example/inch_scaler/inchscaler/FleetSettings" "frontMs" "I" (.int (0 : Int32)) := D10 (Or.inr (hw _ (List.mem_of_getElem? (i := 21) rfl))) (ty := .int) (by decide)
  have F10_appMs : Fld Z h10 b10 "com/example/inch_scaler/inchscaler/FleetSettings" "appMs" "I" (.int (0 : Int32)) := D10 (Or.inr (hw _ (List.mem_of_getElem? (i := 23) rfl))) (ty := .int) (by decide)
  have F10_deadlineMs : Fld Z h10 b10 "com/example/inch_scaler/inchscaler/FleetSettings" "deadlineMs" "I" (.int (0 : Int32)) := D10 (Or.inr (hw _ (List.mem_of_getElem? (i := 25) rfl))) (ty := .int) (by decide)
  refine own_go st10 ?_
  show own_Go p e below _ (T10.setTop (mkF m 3 #[.val (.int p1), .val (.int p2), .val (.int p3), .val (.int p4), .val (.long r1), .second, .val (.long r2), .second, .unset, .unset, .unset, .unset, .unset, .unset, .unset, .unset, .unset, .unset, .unset, .unset] [(.ref b10)]))
  refine own_go (XS.dup X10.here hx rfl (hb hby at_3) rfl rfl (Steps.refl _)) ?_
  show own_Go p e below _ (T10.setTop (mkF m 4 #[.val (.int p1), .val (.int p2), .val (.int p3), .val (.int p4), .val (.long r1), .second, .val (.long r2), .second, .unset, .unset, .unset, .unset, .unset, .unset, .unset, .unset, .unset, .unset, .unset, .unset] [(.ref b10), (.ref b10)]))
  refine own_go (XS.iloadN X10.here hx rfl (hb hby at_4) rfl (Steps.refl _)) ?_
  show own_Go p e below _ (T10.setTop (mkF m 5 #[.val (.int p1), .val (.int p2), .val (.int p3), .val (.int p4), .val (.long r1), .second, .val (.long r2), .second, .unset, .unset, .unset, .unset, .unset, .unset, .unset, .unset, .unset, .unset, .unset, .unset] [(.int p1), (.ref b10), (.ref b10)]))
  refine own_go (XS.sipush X10.here hx rfl (hb hby at_5) (Steps.refl _)) ?_
  show own_Go p e below _ (T10.setTop (mkF m 8 #[.val (.int p1), .val (.int p2), .val (.int p3), .val (.int p4), .val (.long r1), .second, .val (.long r2), .second, .unset, .unset, .unset, .unset, .unset, .unset, .unset, .unset, .unset, .unset, .unset, .unset] [(.int (255 : Int32)), (.int p1), (.ref b10), (.ref b10)]))
  refine own_go (XS.iand X10.here hx rfl (hb hby at_8) rfl (Steps.refl _)) ?_
  show own_Go p e below _ (T10.setTop (mkF m 9 #[.val (.int p1), .val (.int p2), .val (.int p3), .val (.int p4), .val (.long r1), .second, .val (.long r2), .second, .unset, .unset, .unset, .unset, .unset, .unset, .unset, .unset, .unset, .unset, .unset, .unset] [(.int (p1 &&& (255 : Int32))), (.ref b10), (.ref b10)]))
  refine own_go (XS.iconst X10.here hx rfl (hb hby at_9) (Steps.refl _)) ?_
  show own_Go p e below _ (T10.setTop (mkF m 10 #[.val (.int p1), .val (.int p2), .val (.int p3), .val (.int p4), .val (.long r1), .second, .val (.long r2), .second, .unset, .unset, .unset, .unset, .unset, .unset, .unset, .unset, .unset, .unset, .unset, .unset] [(.int (1 : Int32)), (.int (p1 &&& (255 : Int32))), (.ref b10), (.ref b10)]))
  refine own_go (XS.iadd X10.here hx rfl (hb hby at_10) rfl (Steps.refl _)) ?_
  show own_Go p e below _ (T10.setTop (mkF m 11 #[.val (.int p1), .val (.int p2), .val (.int p3), .val (.int p4), .val (.long r1), .second, .val (.long r2), .second, .unset, .unset, .unset, .unset, .unset, .unset, .unset, .unset, .unset, .unset, .unset, .unset] [(.int ((p1 &&& (255 : Int32)) + (1 : Int32))), (.ref b10), (.ref b10)]))
  refine own_go (XS.iloadN X10.here hx rfl (hb hby at_11) rfl (Steps.refl _)) ?_
  show own_Go p e below _ (T10.setTop (mkF m 12 #[.val (.int p1), .val (.int p2), .val (.int p3), .val (.int p4), .val (.long r1), .second, .val (.long r2), .second, .unset, .unset, .unset, .unset, .unset, .unset, .unset, .unset, .unset, .unset, .unset, .unset] [(.int p2), (.int ((p1 &&& (255 : Int32)) + (1 : Int32))), (.ref b10), (.ref b10)]))
  refine own_go (XS.sipush X10.here hx rfl (hb hby at_12) (Steps.refl _)) ?_
  show own_Go p e below _ (T10.setTop (mkF m 15 #[.val (.int p1), .val (.int p2), .val (.int p3), .val (.int p4), .val (.long r1), .second, .val (.long r2), .second, .unset, .unset, .unset, .unset, .unset, .unset, .unset, .unset, .unset, .unset, .unset, .unset] [(.int (255 : Int32)), (.int p2), (.int ((p1 &&& (255 : Int32)) + (1 : Int32))), (.ref b10), (.ref b10)]))
  refine own_go (XS.iand X10.here hx rfl (hb hby at_15) rfl (Steps.refl _)) ?_
  show own_Go p e below _ (T10.setTop (mkF m 16 #[.val (.int p1), .val (.int p2), .val (.int p3), .val (.int p4), .val (.long r1), .second, .val (.long r2), .second, .unset, .unset, .unset, .unset, .unset, .unset, .unset, .unset, .unset, .unset, .unset, .unset] [(.int (p2 &&& (255 : Int32))), (.int ((p1 &&& (255 : Int32)) + (1 : Int32))), (.ref b10), (.ref b10)]))
  refine own_go (XS.iconst X10.here hx rfl (hb hby at_16) (Steps.refl _)) ?_
  show own_Go p e below _ (T10.setTop (mkF m 17 #[.val (.int p1), .val (.int p2), .val (.int p3), .val (.int p4), .val (.long r1), .second, .val (.long r2), .second, .unset, .unset, .unset, .unset, .unset, .unset, .unset, .unset, .unset, .unset, .unset, .unset] [(.int (1 : Int32)), (.int (p2 &&& (255 : Int32))), (.int ((p1 &&& (255 : Int32)) + (1 : Int32))), (.ref b10), (.ref b10)]))
  refine own_go (XS.iadd X10.here hx rfl (hb hby at_17) rfl (Steps.refl _)) ?_
  show own_Go p e below _ (T10.setTop (mkF m 18 #[.val (.int p1), .val (.int p2), .val (.int p3), .val (.int p4), .val (.long r1), .second, .val (.long r2), .second, .unset, .unset, .unset, .unset, .unset, .unset, .unset, .unset, .unset, .unset, .unset, .unset] [(.int ((p2 &&& (255 : Int32)) + (1 : Int32))), (.int ((p1 &&& (255 : Int32)) + (1 : Int32))), (.ref b10), (.ref b10)]))
  refine own_go (XS.iloadN X10.here hx rfl (hb hby at_18) rfl (Steps.refl _)) ?_
  show own_Go p e below _ (T10.setTop (mkF m 19 #[.val (.int p1), .val (.int p2), .val (.int p3), .val (.int p4), .val (.long r1), .second, .val (.long r2), .second, .unset, .unset, .unset, .unset, .unset, .unset, .unset, .unset, .unset, .unset, .unset, .unset] [(.int p3), (.int ((p2 &&& (255 : Int32)) + (1 : Int32))), (.int ((p1 &&& (255 : Int32)) + (1 : Int32))), (.ref b10), (.ref b10)]))
  refine own_go (XS.iconst X10.here hx rfl (hb hby at_19) (Steps.refl _)) ?_
  show own_Go p e below _ (T10.setTop (mkF m 20 #[.val (.int p1), .val (.int p2), .val (.int p3), .val (.int p4), .val (.long r1), .second, .val (.long r2), .second, .unset, .unset, .unset, .unset, .unset, .unset, .unset, .unset, .unset, .unset, .unset, .unset] [(.int (0 : Int32)), (.int p3), (.int ((p2 &&& (255 : Int32)) + (1 : Int32))), (.int ((p1 &&& (255 : Int32)) + (1 : Int32))), (.ref b10), (.ref b10)]))
  refine own_go (XS.iconst X10.here hx rfl (hb hby at_20) (Steps.refl _)) ?_
  show own_Go p e below _ (T10.setTop (mkF m 21 #[.val (.int p1), .val (.int p2), .val (.int p3), .val (.int p4), .val (.long r1), .second, .val (.long r2), .second, .unset, .unset, .unset, .unset, .unset, .unset, .unset, .unset, .unset, .unset, .unset, .unset] [(.int (0 : Int32)), (.int (0 : Int32)), (.int p3), (.int ((p2 &&& (255 : Int32)) + (1 : Int32))), (.int ((p1 &&& (255 : Int32)) + (1 : Int32))), (.ref b10), (.ref b10)]))
  refine own_go (XS.iloadN X10.here hx rfl (hb hby at_21) rfl (Steps.refl _)) ?_
  show own_Go p e below _ (T10.setTop (mkF m 22 #[.val (.int p1), .val (.int p2), .val (.int p3), .val (.int p4), .val (.long r1), .second, .val (.long r2), .second, .unset, .unset, .unset, .unset, .unset, .unset, .unset, .unset, .unset, .unset, .unset, .unset] [(.int p4), (.int (0 : Int32)), (.int (0 : Int32)), (.int p3), (.int ((p2 &&& (255 : Int32)) + (1 : Int32))), (.int ((p1 &&& (255 : Int32)) + (1 : Int32))), (.ref b10), (.ref b10)]))
  obtain ⟨_, _, ⟨T11, L11, k11, n11⟩, -, X11, ⟨Lc11, hQ11, l11, y11, z11⟩, st11⟩ := X10.specialBack hx (y := (⟨"com/example/inch_scaler/inchscaler/FleetSettings", "<init>", "(IIIIII)V"⟩ : MethodName)) rfl hown (mvT hZ (hw _ (List.mem_of_getElem? (i := 3) rfl))) (mvT hZ (hw _ (List.mem_of_getElem? (i := 4) rfl))) (mvT hZ (hw _ (List.mem_of_getElem? (i := 5) rfl))) (by decide) (own_pays (W := 1) (rm_init l Z a0 hw b10 ((p1 &&& (255 : Int32)) + (1 : Int32)) ((p2 &&& (255 : Int32)) + (1 : Int32)) p3 (0 : Int32) (0 : Int32) p4 h10 n0 Zl10 A10 ge_b10 F10_fronts F10_apps F10_bootMs F10_frontMs F10_appMs F10_deadlineMs) hZ (hw _ (List.mem_of_getElem? (i := 5) rfl)) (hw _ (List.mem_of_getElem? (i := 2) rfl)) (by decide) (by decide)) (g := (mkF m 22 #[.val (.int p1), .val (.int p2), .val (.int p3), .val (.int p4), .val (.long r1), .second, .val (.long r2), .second, .unset, .unset, .unset, .unset, .unset, .unset, .unset, .unset, .unset, .unset, .unset, .unset] [(.int p4), (.int (0 : Int32)), (.int (0 : Int32)), (.int p3), (.int ((p2 &&& (255 : Int32)) + (1 : Int32))), (.int ((p1 &&& (255 : Int32)) + (1 : Int32))), (.ref b10), (.ref b10)])) rfl (by rw [hml]; rfl) (Steps.refl _) (a := b10) (argsL := [(.int ((p1 &&& (255 : Int32)) + (1 : Int32))), (.int ((p2 &&& (255 : Int32)) + (1 : Int32))), (.int p3), (.int (0 : Int32)), (.int (0 : Int32)), (.int p4)]) (rest := [(.ref b10)]) (lenOf own_f13 rfl) rfl (by show 2 * 0 + _ ≤ _; exact Nat.le_of_eq rfl) (hb hby at_22) (fun _ _ => ⟨rfl, e10, (by decide : 1 + 0 ≤ _), (by decide : 6 + 0 ≤ _)⟩)
  dsimp only [Pt.U, Pt.locs, Pt.cells, Pt.slots] at X11 l11 y11 z11 st11 hQ11
  subst l11 y11 z11
  obtain ⟨h11, e11⟩ : ∃ z, T11.heap = z := ⟨_, rfl⟩
  rw [e11] at hQ11
  obtain ⟨rfl, Nq11, K11, F11⟩ := hQ11
  have N11 := Fr.app (Fr.nil n0) Nq11
  have Zl11 : n0 ≤ h11.size := Nat.le_trans Zl10 K11.1
  refine own_go st11 ?_
  show own_Go p e below _ (T11.setTop (mkF m 25 #[.val (.int p1), .val (.int p2), .val (.int p3), .val (.int p4), .val (.long r1), .second, .val (.long r2), .second, .unset, .unset, .unset, .unset, .unset, .unset, .unset, .unset, .unset, .unset, .unset, .unset] [(.ref b10)]))
  refine own_go (XS.astore X11.here hx rfl (hb hby at_25) rfl rfl (l' := #[.val (.int p1), .val (.int p2), .val (.int p3), .val (.int p4), .val (.long r1), .second, .val (.long r2), .second, .val (.ref b10), .unset, .unset, .unset, .unset, .unset, .unset, .unset, .unset, .unset, .unset, .unset]) rfl (Steps.refl _)) ?_
  show own_Go p e below _ (T11.setTop (mkF m 27 #[.val (.int p1), .val (.int p2), .val (.int p3), .val (.int p4), .val (.long r1), .second, .val (.long r2), .second, .val (.ref b10), .unset, .unset, .unset, .unset, .unset, .unset, .unset, .unset, .unset, .unset, .unset] []))
  refine own_go (XS.iloadN X11.here hx rfl (hb hby at_27) rfl (Steps.refl _)) ?_
  show own_Go p e below _ (T11.setTop (mkF m 28 #[.val (.int p1), .val (.int p2), .val (.int p3), .val (.int p4), .val (.long r1), .second, .val (.long r2), .second, .val (.ref b10), .unset, .unset, .unset, .unset, .unset, .unset, .unset, .unset, .unset, .unset, .unset] [(.int p4)]))
  refine own_go (XS.i2l X11.here hx rfl (hb hby at_28) rfl (Steps.refl _)) ?_
  show own_Go p e below _ (T11.setTop (mkF m 29 #[.val (.int p1), .val (.int p2), .val (.int p3), .val (.int p4), .val (.long r1), .second, .val (.long r2), .second, .val (.ref b10), .unset, .unset, .unset, .unset, .unset, .unset, .unset, .unset, .unset, .unset, .unset] [(.long (p4.toInt64))]))
  refine own_go (XS.lstore X11.here hx rfl (hb hby at_29) rfl (l' := #[.val (.int p1), .val (.int p2), .val (.int p3), .val (.int p4), .val (.long r1), .second, .val (.long r2), .second, .val (.ref b10), .val (.long (p4.toInt64)), .second, .unset, .unset, .unset, .unset, .unset, .unset, .unset, .unset, .unset]) rfl (Steps.refl _)) ?_
  show own_Go p e below _ (T11.setTop (mkF m 31 #[.val (.int p1), .val (.int p2), .val (.int p3), .val (.int p4), .val (.long r1), .second, .val (.long r2), .second, .val (.ref b10), .val (.long (p4.toInt64)), .second, .unset, .unset, .unset, .unset, .unset, .unset, .unset, .unset, .unset] []))
  refine own_go (XS.aload X11.here hx rfl (hb hby at_31) rfl rfl (Steps.refl _)) ?_
  show own_Go p e below _ (T11.setTop (mkF m 33 #[.val (.int p1), .val (.int p2), .val (.int p3), .val (.int p4), .val (.long r1), .second, .val (.long r2), .second, .val (.ref b10), .val (.long (p4.toInt64)), .second, .unset, .unset, .unset, .unset, .unset, .unset, .unset, .unset, .unset] [(.ref b10)]))
  refine own_go (XS.lload X11.here hx rfl (hb hby at_33) rfl (Steps.refl _)) ?_
  show own_Go p e below _ (T11.setTop (mkF m 35 #[.val (.int p1), .val (.int p2), .val (.int p3), .val (.int p4), .val (.long r1), .second, .val (.long r2), .second, .val (.ref b10), .val (.long (p4.toInt64)), .second, .unset, .unset, .unset, .unset, .unset, .unset, .unset, .unset, .unset] [(.long (p4.toInt64)), (.ref b10)]))
  obtain ⟨cq12, kq12, q12a, q12b, q12c⟩ := isOf hZ e11 (A10.keep K11)
  obtain ⟨_, _, ⟨T12, L12, k12, n12⟩, -, X12, ⟨Lc12, hQ12, l12, y12, z12⟩, st12⟩ := X11.virtualBack hx (y := (⟨"com/example/inch_scaler/inchscaler/FleetSettings", "inTime", "(J)Z"⟩ : MethodName)) (z := (⟨"com/example/inch_scaler/inchscaler/FleetSettings", "inTime", "(J)Z"⟩ : MethodName)) hown (mvT hZ (hw _ (List.mem_of_getElem? (i := 26) rfl))) (mvT hZ (hw _ (List.mem_of_getElem? (i := 27) rfl))) (notFace_of_selects (args := #[]) (mvT hZ (hw _ (List.mem_of_getElem? (i := 29) rfl)))) (mvT hZ (hw _ (List.mem_of_getElem? (i := 29) rfl))) (mvT hZ (hw _ (List.mem_of_getElem? (i := 28) rfl))) (by decide) (own_pays (W := 0) (rm_in l Z a0 hw b10 p4 (p4.toInt64) h11 n0 Zl11 F11) hZ (hw _ (List.mem_of_getElem? (i := 30) rfl)) (hw _ (List.mem_of_getElem? (i := 2) rfl)) (by decide) (by decide)) q12a q12c (g := (mkF m 35 #[.val (.int p1), .val (.int p2), .val (.int p3), .val (.int p4), .val (.long r1), .second, .val (.long r2), .second, .val (.ref b10), .val (.long (p4.toInt64)), .second, .unset, .unset, .unset, .unset, .unset, .unset, .unset, .unset, .unset] [(.long (p4.toInt64)), (.ref b10)])) rfl (by rw [hml]; rfl) (Steps.refl _) (argsL := [(.long (p4.toInt64))]) (rest := []) (lenOf own_f14 rfl) rfl (by show 2 * 0 + _ ≤ _; exact Nat.le_of_eq rfl) (hb hby at_35) (fun _ _ => ⟨rfl, e11, (by decide : 1 + 0 ≤ _), (by decide : 6 + 0 ≤ _)⟩)
  dsimp only [Pt.U, Pt.locs, Pt.cells, Pt.slots] at X12 l12 y12 z12 st12 hQ12
  subst l12 y12 z12
  obtain ⟨rfl, rfl, e12⟩ := hQ12
  try rw [List.append_nil] at X12
  refine own_go st12 ?_
  show own_Go p e below _ (T12.setTop (mkF m 38 #[.val (.int p1), .val (.int p2), .val (.int p3), .val (.int p4), .val (.long r1), .second, .val (.long r2), .second, .val (.ref b10), .val (.long (p4.toInt64)), .second, .unset, .unset, .unset, .unset, .unset, .unset, .unset, .unset, .unset] [(.int (own_b (¬ (p4.toInt64) < (p4.toInt64))))]))
  refine own_go (XS.istore X12.here hx rfl (hb hby at_38) rfl (l' := #[.val (.int p1), .val (.int p2), .val (.int p3), .val (.int p4), .val (.long r1), .second, .val (.long r2), .second, .val (.ref b10), .val (.long (p4.toInt64)), .second, .val (.int (own_b (¬ (p4.toInt64) < (p4.toInt64)))), .unset, .unset, .unset, .unset, .unset, .unset, .unset, .unset]) rfl (Steps.refl _)) ?_
  show own_Go p e below _ (T12.setTop (mkF m 40 #[.val (.int p1), .val (.int p2), .val (.int p3), .val (.int p4), .val (.long r1), .second, .val (.long r2), .second, .val (.ref b10), .val (.long (p4.toInt64)), .second, .val (.int (own_b (¬ (p4.toInt64) < (p4.toInt64)))), .unset, .unset, .unset, .unset, .unset, .unset, .unset, .unset] []))
  refine own_go (XS.aload X12.here hx rfl (hb hby at_40) rfl rfl (Steps.refl _)) ?_
  show own_Go p e below _ (T12.setTop (mkF m 42 #[.val (.int p1), .val (.int p2), .val (.int p3), .val (.int p4), .val (.long r1), .second, .val (.long r2), .second, .val (.ref b10), .val (.long (p4.toInt64)), .second, .val (.int (own_b (¬ (p4.toInt64) < (p4.toInt64)))), .unset, .unset, .unset, .unset, .unset, .unset, .unset, .unset] [(.ref b10)]))
  refine own_go (XS.lload X12.here hx rfl (hb hby at_42) rfl (Steps.refl _)) ?_
  show own_Go p e below _ (T12.setTop (mkF m 44 #[.val (.int p1), .val (.int p2), .val (.int p3), .val (.int p4), .val (.long r1), .second, .val (.long r2), .second, .val (.ref b10), .val (.long (p4.toInt64)), .second, .val (.int (own_b (¬ (p4.toInt64) < (p4.toInt64)))), .unset, .unset, .unset, .unset, .unset, .unset, .unset, .unset] [(.long (p4.toInt64)), (.ref b10)]))
  refine own_go (XS.lconst X12.here hx rfl (hb hby at_44) (Steps.refl _)) ?_
  show own_Go p e below _ (T12.setTop (mkF m 45 #[.val (.int p1), .val (.int p2), .val (.int p3), .val (.int p4), .val (.long r1), .second, .val (.long r2), .second, .val (.ref b10), .val (.long (p4.toInt64)), .second, .val (.int (own_b (¬ (p4.toInt64) < (p4.toInt64)))), .unset, .unset, .unset, .unset, .unset, .unset, .unset, .unset] [(.long (1 : Int64)), (.long (p4.toInt64)), (.ref b10)]))
  refine own_go (XS.ladd X12.here hx rfl (hb hby at_45) rfl (Steps.refl _)) ?_
  show own_Go p e below _ (T12.setTop (mkF m 46 #[.val (.int p1), .val (.int p2), .val (.int p3), .val (.int p4), .val (.long r1), .second, .val (.long r2), .second, .val (.ref b10), .val (.long (p4.toInt64)), .second, .val (.int (own_b (¬ (p4.toInt64) < (p4.toInt64)))), .unset, .unset, .unset, .unset, .unset, .unset, .unset, .unset] [(.long ((p4.toInt64) + (1 : Int64))), (.ref b10)]))
  obtain ⟨cq13, kq13, q13a, q13b, q13c⟩ := isOf hZ e12 (A10.keep K11)
  obtain ⟨_, _, ⟨T13, L13, k13, n13⟩, -, X13, ⟨Lc13, hQ13, l13, y13, z13⟩, st13⟩ := X12.virtualBack hx (y := (⟨"com/example/inch_scaler/inchscaler/FleetSettings", "inTime", "(J)Z"⟩ : MethodName)) (z := (⟨"com/example/inch_scaler/inchscaler/FleetSettings", "inTime", "(J)Z"⟩ : MethodName)) hown (mvT hZ (hw _ (List.mem_of_getElem? (i := 26) rfl))) (mvT hZ (hw _ (List.mem_of_getElem? (i := 27) rfl))) (notFace_of_selects (args := #[]) (mvT hZ (hw _ (List.mem_of_getElem? (i := 29) rfl)))) (mvT hZ (hw _ (List.mem_of_getElem? (i := 29) rfl))) (mvT hZ (hw _ (List.mem_of_getElem? (i := 28) rfl))) (by decide) (own_pays (W := 0) (rm_in l Z a0 hw b10 p4 ((p4.toInt64) + (1 : Int64)) h11 n0 Zl11 F11) hZ (hw _ (List.mem_of_getElem? (i := 30) rfl)) (hw _ (List.mem_of_getElem? (i := 2) rfl)) (by decide) (by decide)) q13a q13c (g := (mkF m 46 #[.val (.int p1), .val (.int p2), .val (.int p3), .val (.int p4), .val (.long r1), .second, .val (.long r2), .second, .val (.ref b10), .val (.long (p4.toInt64)), .second, .val (.int (own_b (¬ (p4.toInt64) < (p4.toInt64)))), .unset, .unset, .unset, .unset, .unset, .unset, .unset, .unset] [(.long ((p4.toInt64) + (1 : Int64))), (.ref b10)])) rfl (by rw [hml]; rfl) (Steps.refl _) (argsL := [(.long ((p4.toInt64) + (1 : Int64)))]) (rest := []) (lenOf own_f14 rfl) rfl (by show 2 * 0 + _ ≤ _; exact Nat.le_of_eq rfl) (hb hby at_46) (fun _ _ => ⟨rfl, e12, (by decide : 1 + 0 ≤ _), (by decide : 6 + 0 ≤ _)⟩)
  dsimp only [Pt.U, Pt.locs, Pt.cells, Pt.slots] at X13 l13 y13 z13 st13 hQ13
  subst l13 y13 z13
  obtain ⟨rfl, rfl, e13⟩ := hQ13
  try rw [List.append_nil] at X13
  refine own_go st13 ?_
  show own_Go p e below _ (T13.setTop (mkF m 49 #[.val (.int p1), .val (.int p2), .val (.int p3), .val (.int p4), .val (.long r1), .second, .val (.long r2), .second, .val (.ref b10), .val (.long (p4.toInt64)), .second, .val (.int (own_b (¬ (p4.toInt64) < (p4.toInt64)))), .unset, .unset, .unset, .unset, .unset, .unset, .unset, .unset] [(.int (own_b (¬ (p4.toInt64) < ((p4.toInt64) + (1 : Int64)))))]))
  refine own_go (XS.istore X13.here hx rfl (hb hby at_49) rfl (l' := #[.val (.int p1), .val (.int p2), .val (.int p3), .val (.int p4), .val (.long r1), .second, .val (.long r2), .second, .val (.ref b10), .val (.long (p4.toInt64)), .second, .val (.int (own_b (¬ (p4.toInt64) < (p4.toInt64)))), .val (.int (own_b (¬ (p4.toInt64) < ((p4.toInt64) + (1 : Int64))))), .unset, .unset, .unset, .unset, .unset, .unset, .unset]) rfl (Steps.refl _)) ?_
  show own_Go p e below _ (T13.setTop (mkF m 51 #[.val (.int p1), .val (.int p2), .val (.int p3), .val (.int p4), .val (.long r1), .second, .val (.long r2), .second, .val (.ref b10), .val (.long (p4.toInt64)), .second, .val (.int (own_b (¬ (p4.toInt64) < (p4.toInt64)))), .val (.int (own_b (¬ (p4.toInt64) < ((p4.toInt64) + (1 : Int64))))), .unset, .unset, .unset, .unset, .unset, .unset, .unset] []))
  refine own_go (XS.lload X13.here hx rfl (hb hby at_51) rfl (Steps.refl _)) ?_
  show own_Go p e below _ (T13.setTop (mkF m 53 #[.val (.int p1), .val (.int p2), .val (.int p3), .val (.int p4), .val (.long r1), .second, .val (.long r2), .second, .val (.ref b10), .val (.long (p4.toInt64)), .second, .val (.int (own_b (¬ (p4.toInt64) < (p4.toInt64)))), .val (.int (own_b (¬ (p4.toInt64) < ((p4.toInt64) + (1 : Int64))))), .unset, .unset, .unset, .unset, .unset, .unset, .unset] [(.long r1)]))
  refine own_go (XS.lload X13.here hx rfl (hb hby at_53) rfl (Steps.refl _)) ?_
  show own_Go p e below _ (T13.setTop (mkF m 55 #[.val (.int p1), .val (.int p2), .val (.int p3), .val (.int p4), .val (.long r1), .second, .val (.long r2), .second, .val (.ref b10), .val (.long (p4.toInt64)), .second, .val (.int (own_b (¬ (p4.toInt64) < (p4.toInt64)))), .val (.int (own_b (¬ (p4.toInt64) < ((p4.toInt64) + (1 : Int64))))), .unset, .unset, .unset, .unset, .unset, .unset, .unset] [(.long r2), (.long r1)]))
  obtain ⟨_, _, ⟨T14, L14, k14, n14⟩, -, X14, ⟨Lc14, hQ14, l14, y14, z14⟩, st14⟩ := Jvm.LawKit.callS X13 hx (y := (⟨"java/lang/Math", "min", "(JJ)J"⟩ : MethodName)) hown (mvT hZ (hw _ (List.mem_of_getElem? (i := 31) rfl))) (mvT hZ (hw _ (List.mem_of_getElem? (i := 32) rfl))) (mvT hZ (hw _ (List.mem_of_getElem? (i := 33) rfl))) (mvT hZ (hw _ (List.mem_of_getElem? (i := 34) rfl))) (by decide) (own_pays (W := 0) (rm_min l Z a0 hw r1 r2 h11 n0 Zl11) hZ (hw _ (List.mem_of_getElem? (i := 34) rfl)) (hw _ (List.mem_of_getElem? (i := 33) rfl)) (by decide) (by decide)) (g := (mkF m 55 #[.val (.int p1), .val (.int p2), .val (.int p3), .val (.int p4), .val (.long r1), .second, .val (.long r2), .second, .val (.ref b10), .val (.long (p4.toInt64)), .second, .val (.int (own_b (¬ (p4.toInt64) < (p4.toInt64)))), .val (.int (own_b (¬ (p4.toInt64) < ((p4.toInt64) + (1 : Int64))))), .unset, .unset, .unset, .unset, .unset, .unset, .unset] [(.long r2), (.long r1)])) rfl (by rw [hml]; rfl) (argsL := [(.long r1), (.long r2)]) (rest := []) (lenOf own_f15 rfl) rfl (by show 2 * 0 + _ ≤ _; exact Nat.le_of_eq rfl) (hb hby at_55) (fun _ _ => ⟨rfl, e13, (by decide : 1 + 0 ≤ _), (by decide : 6 + 0 ≤ _)⟩)
  dsimp only [Pt.U, Pt.locs, Pt.cells, Pt.slots] at X14 l14 y14 z14 st14 hQ14
  subst l14 y14 z14
  obtain ⟨rfl, rfl, e14⟩ := hQ14
  try rw [List.append_nil] at X14
  refine own_go (st14 _ (Steps.refl _)) ?_
  show own_Go p e below _ (T14.setTop (mkF m 58 #[.val (.int p1), .val (.int p2), .val (.int p3), .val (.int p4), .val (.long r1), .second, .val (.long r2), .second, .val (.ref b10), .val (.long (p4.toInt64)), .second, .val (.int (own_b (¬ (p4.toInt64) < (p4.toInt64)))), .val (.int (own_b (¬ (p4.toInt64) < ((p4.toInt64) + (1 : Int64))))), .unset, .unset, .unset, .unset, .unset, .unset, .unset] [(.long (own_min r1 r2))]))
  refine own_go (XS.lstore X14.here hx rfl (hb hby at_58) rfl (l' := #[.val (.int p1), .val (.int p2), .val (.int p3), .val (.int p4), .val (.long r1), .second, .val (.long r2), .second, .val (.ref b10), .val (.long (p4.toInt64)), .second, .val (.int (own_b (¬ (p4.toInt64) < (p4.toInt64)))), .val (.int (own_b (¬ (p4.toInt64) < ((p4.toInt64) + (1 : Int64))))), .val (.long (own_min r1 r2)), .second, .unset, .unset, .unset, .unset, .unset]) rfl (Steps.refl _)) ?_
  show own_Go p e below _ (T14.setTop (mkF m 60 #[.val (.int p1), .val (.int p2), .val (.int p3), .val (.int p4), .val (.long r1), .second, .val (.long r2), .second, .val (.ref b10), .val (.long (p4.toInt64)), .second, .val (.int (own_b (¬ (p4.toInt64) < (p4.toInt64)))), .val (.int (own_b (¬ (p4.toInt64) < ((p4.toInt64) + (1 : Int64))))), .val (.long (own_min r1 r2)), .second, .unset, .unset, .unset, .unset, .unset] []))
  refine own_go (XS.lload X14.here hx rfl (hb hby at_60) rfl (Steps.refl _)) ?_
  show own_Go p e below _ (T14.setTop (mkF m 62 #[.val (.int p1), .val (.int p2), .val (.int p3), .val (.int p4), .val (.long r1), .second, .val (.long r2), .second, .val (.ref b10), .val (.long (p4.toInt64)), .second, .val (.int (own_b (¬ (p4.toInt64) < (p4.toInt64)))), .val (.int (own_b (¬ (p4.toInt64) < ((p4.toInt64) + (1 : Int64))))), .val (.long (own_min r1 r2)), .second, .unset, .unset, .unset, .unset, .unset] [(.long r1)]))
  refine own_go (XS.lload X14.here hx rfl (hb hby at_62) rfl (Steps.refl _)) ?_
  show own_Go p e below _ (T14.setTop (mkF m 64 #[.val (.int p1), .val (.int p2), .val (.int p3), .val (.int p4), .val (.long r1), .second, .val (.long r2), .second, .val (.ref b10), .val (.long (p4.toInt64)), .second, .val (.int (own_b (¬ (p4.toInt64) < (p4.toInt64)))), .val (.int (own_b (¬ (p4.toInt64) < ((p4.toInt64) + (1 : Int64))))), .val (.long (own_min r1 r2)), .second, .unset, .unset, .unset, .unset, .unset] [(.long r2), (.long r1)]))
  obtain ⟨_, _, ⟨T15, L15, k15, n15⟩, -, X15, ⟨Lc15, hQ15, l15, y15, z15⟩, st15⟩ := Jvm.LawKit.callS X14 hx (y := (⟨"java/lang/Math", "max", "(JJ)J"⟩ : MethodName)) hown (mvT hZ (hw _ (List.mem_of_getElem? (i := 35) rfl))) (mvT hZ (hw _ (List.mem_of_getElem? (i := 36) rfl))) (mvT hZ (hw _ (List.mem_of_getElem? (i := 33) rfl))) (mvT hZ (hw _ (List.mem_of_getElem? (i := 37) rfl))) (by decide) (own_pays (W := 0) (rm_max l Z a0 hw r1 r2 h11 n0 Zl11) hZ (hw _ (List.mem_of_getElem? (i := 37) rfl)) (hw _ (List.mem_of_getElem? (i := 33) rfl)) (by decide) (by decide)) (g := (mkF m 64 #[.val (.int p1), .val (.int p2), .val (.int p3), .val (.int p4), .val (.long r1), .second, .val (.long r2), .second, .val (.ref b10), .val (.long (p4.toInt64)), .second, .val (.int (own_b (¬ (p4.toInt64) < (p4.toInt64)))), .val (.int (own_b (¬ (p4.toInt64) < ((p4.toInt64) + (1 : Int64))))), .val (.long (own_min r1 r2)), .second, .unset, .unset, .unset, .unset, .unset] [(.long r2), (.long r1)])) rfl (by rw [hml]; rfl) (argsL := [(.long r1), (.long r2)]) (rest := []) (lenOf own_f15 rfl) rfl (by show 2 * 0 + _ ≤ _; exact Nat.le_of_eq rfl) (hb hby at_64) (fun _ _ => ⟨rfl, e14, (by decide : 1 + 0 ≤ _), (by decide : 6 + 0 ≤ _)⟩)
  dsimp only [Pt.U, Pt.locs, Pt.cells, Pt.slots] at X15 l15 y15 z15 st15 hQ15
  subst l15 y15 z15
  obtain ⟨rfl, rfl, e15⟩ := hQ15
  try rw [List.append_nil] at X15
  refine own_go (st15 _ (Steps.refl _)) ?_
  show own_Go p e below _ (T15.setTop (mkF m 67 #[.val (.int p1), .val (.int p2), .val (.int p3), .val (.int p4), .val (.long r1), .second, .val (.long r2), .second, .val (.ref b10), .val (.long (p4.toInt64)), .second, .val (.int (own_b (¬ (p4.toInt64) < (p4.toInt64)))), .val (.int (own_b (¬ (p4.toInt64) < ((p4.toInt64) + (1 : Int64))))), .val (.long (own_min r1 r2)), .second, .unset, .unset, .unset, .unset, .unset] [(.long (own_max r1 r2))]))
  refine own_go (XS.lstore X15.here hx rfl (hb hby at_67) rfl (l' := #[.val (.int p1), .val (.int p2), .val (.int p3), .val (.int p4), .val (.long r1), .second, .val (.long r2), .second, .val (.ref b10), .val (.long (p4.toInt64)), .second, .val (.int (own_b (¬ (p4.toInt64) < (p4.toInt64)))), .val (.int (own_b (¬ (p4.toInt64) < ((p4.toInt64) + (1 : Int64))))), .val (.long (own_min r1 r2)), .second, .val (.long (own_max r1 r2)), .second, .unset, .unset, .unset]) rfl (Steps.refl _)) ?_
  show own_Go p e below _ (T15.setTop (mkF m 69 #[.val (.int p1), .val (.int p2), .val (.int p3), .val (.int p4), .val (.long r1), .second, .val (.long r2), .second, .val (.ref b10), .val (.long (p4.toInt64)), .second, .val (.int (own_b (¬ (p4.toInt64) < (p4.toInt64)))), .val (.int (own_b (¬ (p4.toInt64) < ((p4.toInt64) + (1 : Int64))))), .val (.long (own_min r1 r2)), .second, .val (.long (own_max r1 r2)), .second, .unset, .unset, .unset] []))
  refine own_go (XS.aload X15.here hx rfl (hb hby at_69) rfl rfl (Steps.refl _)) ?_
  show own_Go p e below _ (T15.setTop (mkF m 71 #[.val (.int p1), .val (.int p2), .val (.int p3), .val (.int p4), .val (.long r1), .second, .val (.long r2), .second, .val (.ref b10), .val (.long (p4.toInt64)), .second, .val (.int (own_b (¬ (p4.toInt64) < (p4.toInt64)))), .val (.int (own_b (¬ (p4.toInt64) < ((p4.toInt64) + (1 : Int64))))), .val (.long (own_min r1 r2)), .second, .val (.long (own_max r1 r2)), .second, .unset, .unset, .unset] [(.ref b10)]))
  refine own_go (XS.lload X15.here hx rfl (hb hby at_71) rfl (Steps.refl _)) ?_
  show own_Go p e below _ (T15.setTop (mkF m 73 #[.val (.int p1), .val (.int p2), .val (.int p3), .val (.int p4), .val (.long r1), .second, .val (.long r2), .second, .val (.ref b10), .val (.long (p4.toInt64)), .second, .val (.int (own_b (¬ (p4.toInt64) < (p4.toInt64)))), .val (.int (own_b (¬ (p4.toInt64) < ((p4.toInt64) + (1 : Int64))))), .val (.long (own_min r1 r2)), .second, .val (.long (own_max r1 r2)), .second, .unset, .unset, .unset] [(.long (own_max r1 r2)), (.ref b10)]))
  obtain ⟨cq16, kq16, q16a, q16b, q16c⟩ := isOf hZ e15 (A10.keep K11)
  obtain ⟨_, _, ⟨T16, L16, k16, n16⟩, -, X16, ⟨Lc16, hQ16, l16, y16, z16⟩, st16⟩ := X15.virtualBack hx (y := (⟨"com/example/inch_scaler/inchscaler/FleetSettings", "inTime", "(J)Z"⟩ : MethodName)) (z := (⟨"com/example/inch_scaler/inchscaler/FleetSettings", "inTime", "(J)Z"⟩ : MethodName)) hown (mvT hZ (hw _ (List.mem_of_getElem? (i := 26) rfl))) (mvT hZ (hw _ (List.mem_of_getElem? (i := 27) rfl))) (notFace_of_selects (args := #[]) (mvT hZ (hw _ (List.mem_of_getElem? (i := 29) rfl)))) (mvT hZ (hw _ (List.mem_of_getElem? (i := 29) rfl))) (mvT hZ (hw _ (List.mem_of_getElem? (i := 28) rfl))) (by decide) (own_pays (W := 0) (rm_in l Z a0 hw b10 p4 (own_max r1 r2) h11 n0 Zl11 F11) hZ (hw _ (List.mem_of_getElem? (i := 30) rfl)) (hw _ (List.mem_of_getElem? (i := 2) rfl)) (by decide) (by decide)) q16a q16c (g := (mkF m 73 #[.val (.int p1), .val (.int p2), .val (.int p3), .val (.int p4), .val (.long r1), .second, .val (.long r2), .second, .val (.ref b10), .val (.long (p4.toInt64)), .second, .val (.int (own_b (¬ (p4.toInt64) < (p4.toInt64)))), .val (.int (own_b (¬ (p4.toInt64) < ((p4.toInt64) + (1 : Int64))))), .val (.long (own_min r1 r2)), .second, .val (.long (own_max r1 r2)), .second, .unset, .unset, .unset] [(.long (own_max r1 r2)), (.ref b10)])) rfl (by rw [hml]; rfl) (Steps.refl _) (argsL := [(.long (own_max r1 r2))]) (rest := []) (lenOf own_f14 rfl) rfl (by show 2 * 0 + _ ≤ _; exact Nat.le_of_eq rfl) (hb hby at_73) (fun _ _ => ⟨rfl, e15, (by decide : 1 + 0 ≤ _), (by decide : 6 + 0 ≤ _)⟩)
  dsimp only [Pt.U, Pt.locs, Pt.cells, Pt.slots] at X16 l16 y16 z16 st16 hQ16
  subst l16 y16 z16
  obtain ⟨rfl, rfl, e16⟩ := hQ16
  try rw [List.append_nil] at X16
  refine own_go st16 ?_
  show own_Go p e below _ (T16.setTop (mkF m 76 #[.val (.int p1), .val (.int p2), .val (.int p3), .val (.int p4), .val (.long r1), .second, .val (.long r2), .second, .val (.ref b10), .val (.long (p4.toInt64)), .second, .val (.int (own_b (¬ (p4.toInt64) < (p4.toInt64)))), .val (.int (own_b (¬ (p4.toInt64) < ((p4.toInt64) + (1 : Int64))))), .val (.long (own_min r1 r2)), .second, .val (.long (own_max r1 r2)), .second, .unset, .unset, .unset] [(.int (own_b (¬ (p4.toInt64) < (own_max r1 r2))))]))
  refine own_go (XS.istore X16.here hx rfl (hb hby at_76) rfl (l' := #[.val (.int p1), .val (.int p2), .val (.int p3), .val (.int p4), .val (.long r1), .second, .val (.long r2), .second, .val (.ref b10), .val (.long (p4.toInt64)), .second, .val (.int (own_b (¬ (p4.toInt64) < (p4.toInt64)))), .val (.int (own_b (¬ (p4.toInt64) < ((p4.toInt64) + (1 : Int64))))), .val (.long (own_min r1 r2)), .second, .val (.long (own_max r1 r2)), .second, .val (.int (own_b (¬ (p4.toInt64) < (own_max r1 r2)))), .unset, .unset]) rfl (Steps.refl _)) ?_
  show own_Go p e below _ (T16.setTop (mkF m 78 #[.val (.int p1), .val (.int p2), .val (.int p3), .val (.int p4), .val (.long r1), .second, .val (.long r2), .second, .val (.ref b10), .val (.long (p4.toInt64)), .second, .val (.int (own_b (¬ (p4.toInt64) < (p4.toInt64)))), .val (.int (own_b (¬ (p4.toInt64) < ((p4.toInt64) + (1 : Int64))))), .val (.long (own_min r1 r2)), .second, .val (.long (own_max r1 r2)), .second, .val (.int (own_b (¬ (p4.toInt64) < (own_max r1 r2)))), .unset, .unset] []))
  refine own_go (XS.aload X16.here hx rfl (hb hby at_78) rfl rfl (Steps.refl _)) ?_
  show own_Go p e below _ (T16.setTop (mkF m 80 #[.val (.int p1), .val (.int p2), .val (.int p3), .val (.int p4), .val (.long r1), .second, .val (.long r2), .second, .val (.ref b10), .val (.long (p4.toInt64)), .second, .val (.int (own_b (¬ (p4.toInt64) < (p4.toInt64)))), .val (.int (own_b (¬ (p4.toInt64) < ((p4.toInt64) + (1 : Int64))))), .val (.long (own_min r1 r2)), .second, .val (.long (own_max r1 r2)), .second, .val (.int (own_b (¬ (p4.toInt64) < (own_max r1 r2)))), .unset, .unset] [(.ref b10)]))
  refine own_go (XS.lload X16.here hx rfl (hb hby at_80) rfl (Steps.refl _)) ?_
  show own_Go p e below _ (T16.setTop (mkF m 82 #[.val (.int p1), .val (.int p2), .val (.int p3), .val (.int p4), .val (.long r1), .second, .val (.long r2), .second, .val (.ref b10), .val (.long (p4.toInt64)), .second, .val (.int (own_b (¬ (p4.toInt64) < (p4.toInt64)))), .val (.int (own_b (¬ (p4.toInt64) < ((p4.toInt64) + (1 : Int64))))), .val (.long (own_min r1 r2)), .second, .val (.long (own_max r1 r2)), .second, .val (.int (own_b (¬ (p4.toInt64) < (own_max r1 r2)))), .unset, .unset] [(.long (own_min r1 r2)), (.ref b10)]))
  obtain ⟨cq17, kq17, q17a, q17b, q17c⟩ := isOf hZ e16 (A10.keep K11)
  obtain ⟨_, _, ⟨T17, L17, k17, n17⟩, -, X17, ⟨Lc17, hQ17, l17, y17, z17⟩, st17⟩ := X16.virtualBack hx (y := (⟨"com/example/inch_scaler/inchscaler/FleetSettings", "inTime", "(J)Z"⟩ : MethodName)) (z := (⟨"com/example/inch_scaler/inchscaler/FleetSettings", "inTime", "(J)Z"⟩ : MethodName)) hown (mvT hZ (hw _ (List.mem_of_getElem? (i := 26) rfl))) (mvT hZ (hw _ (List.mem_of_getElem? (i := 27) rfl))) (notFace_of_selects (args := #[]) (mvT hZ (hw _ (List.mem_of_getElem? (i := 29) rfl)))) (mvT hZ (hw _ (List.mem_of_getElem? (i := 29) rfl))) (mvT hZ (hw _ (List.mem_of_getElem? (i := 28) rfl))) (by decide) (own_pays (W := 0) (rm_in l Z a0 hw b10 p4 (own_min r1 r2) h11 n0 Zl11 F11) hZ (hw _ (List.mem_of_getElem? (i := 30) rfl)) (hw _ (List.mem_of_getElem? (i := 2) rfl)) (by decide) (by decide)) q17a q17c (g := (mkF m 82 #[.val (.int p1), .val (.int p2), .val (.int p3), .val (.int p4), .val (.long r1), .second, .val (.long r2), .second, .val (.ref b10), .val (.long (p4.toInt64)), .second, .val (.int (own_b (¬ (p4.toInt64) < (p4.toInt64)))), .val (.int (own_b (¬ (p4.toInt64) < ((p4.toInt64) + (1 : Int64))))), .val (.long (own_min r1 r2)), .second, .val (.long (own_max r1 r2)), .second, .val (.int (own_b (¬ (p4.toInt64) < (own_max r1 r2)))), .unset, .unset] [(.long (own_min r1 r2)), (.ref b10)])) rfl (by rw [hml]; rfl) (Steps.refl _) (argsL := [(.long (own_min r1 r2))]) (rest := []) (lenOf own_f14 rfl) rfl (by show 2 * 0 + _ ≤ _; exact Nat.le_of_eq rfl) (hb hby at_82) (fun _ _ => ⟨rfl, e16, (by decide : 1 + 0 ≤ _), (by decide : 6 + 0 ≤ _)⟩)
  dsimp only [Pt.U, Pt.locs, Pt.cells, Pt.slots] at X17 l17 y17 z17 st17 hQ17
  subst l17 y17 z17
  obtain ⟨rfl, rfl, e17⟩ := hQ17
  try rw [List.append_nil] at X17
  refine own_go st17 ?_
  show own_Go p e below _ (T17.setTop (mkF m 85 #[.val (.int p1), .val (.int p2), .val (.int p3), .val (.int p4), .val (.long r1), .second, .val (.long r2), .second, .val (.ref b10), .val (.long (p4.toInt64)), .second, .val (.int (own_b (¬ (p4.toInt64) < (p4.toInt64)))), .val (.int (own_b (¬ (p4.toInt64) < ((p4.toInt64) + (1 : Int64))))), .val (.long (own_min r1 r2)), .second, .val (.long (own_max r1 r2)), .second, .val (.int (own_b (¬ (p4.toInt64) < (own_max r1 r2)))), .unset, .unset] [(.int (own_b (¬ (p4.toInt64) < (own_min r1 r2))))]))
  refine own_go (XS.istore X17.here hx rfl (hb hby at_85) rfl (l' := #[.val (.int p1), .val (.int p2), .val (.int p3), .val (.int p4), .val (.long r1), .second, .val (.long r2), .second, .val (.ref b10), .val (.long (p4.toInt64)), .second, .val (.int (own_b (¬ (p4.toInt64) < (p4.toInt64)))), .val (.int (own_b (¬ (p4.toInt64) < ((p4.toInt64) + (1 : Int64))))), .val (.long (own_min r1 r2)), .second, .val (.long (own_max r1 r2)), .second, .val (.int (own_b (¬ (p4.toInt64) < (own_max r1 r2)))), .val (.int (own_b (¬ (p4.toInt64) < (own_min r1 r2)))), .unset]) rfl (Steps.refl _)) ?_
  show own_Go p e below _ (T17.setTop (mkF m 87 #[.val (.int p1), .val (.int p2), .val (.int p3), .val (.int p4), .val (.long r1), .second, .val (.long r2), .second, .val (.ref b10), .val (.long (p4.toInt64)), .second, .val (.int (own_b (¬ (p4.toInt64) < (p4.toInt64)))), .val (.int (own_b (¬ (p4.toInt64) < ((p4.toInt64) + (1 : Int64))))), .val (.long (own_min r1 r2)), .second, .val (.long (own_max r1 r2)), .second, .val (.int (own_b (¬ (p4.toInt64) < (own_max r1 r2)))), .val (.int (own_b (¬ (p4.toInt64) < (own_min r1 r2)))), .unset] []))
  refine own_go (XS.iload X17.here hx rfl (hb hby at_87) rfl (Steps.refl _)) ?_
  show own_Go p e below _ (T17.setTop (mkF m 89 #[.val (.int p1), .val (.int p2), .val (.int p3), .val (.int p4), .val (.long r1), .second, .val (.long r2), .second, .val (.ref b10), .val (.long (p4.toInt64)), .second, .val (.int (own_b (¬ (p4.toInt64) < (p4.toInt64)))), .val (.int (own_b (¬ (p4.toInt64) < ((p4.toInt64) + (1 : Int64))))), .val (.long (own_min r1 r2)), .second, .val (.long (own_max r1 r2)), .second, .val (.int (own_b (¬ (p4.toInt64) < (own_max r1 r2)))), .val (.int (own_b (¬ (p4.toInt64) < (own_min r1 r2)))), .unset] [(.int (own_b (¬ (p4.toInt64) < (own_max r1 r2))))]))
  by_cases hc89 : ¬ (p4.toInt64) < (own_max r1 r2)
  · refine own_go (XS.ifNo X17.here hx rfl (hb hby at_89) rfl ((if0 _ _).trans (feq (own_b_nz hc89)).1) (Steps.refl _)) ?_
    show own_Go p e below _ (T17.setTop (mkF m 92 #[.val (.int p1), .val (.int p2), .val (.int p3), .val (.int p4), .val (.long r1), .second, .val (.long r2), .second, .val (.ref b10), .val (.long (p4.toInt64)), .second, .val (.int (own_b (¬ (p4.toInt64) < (p4.toInt64)))), .val (.int (own_b (¬ (p4.toInt64) < ((p4.toInt64) + (1 : Int64))))), .val (.long (own_min r1 r2)), .second, .val (.long (own_max r1 r2)), .second, .val (.int (own_b (¬ (p4.toInt64) < (own_max r1 r2)))), .val (.int (own_b (¬ (p4.toInt64) < (own_min r1 r2)))), .unset] []))
    refine own_go (XS.iload X17.here hx rfl (hb hby at_92) rfl (Steps.refl _)) ?_
    show own_Go p e below _ (T17.setTop (mkF m 94 #[.val (.int p1), .val (.int p2), .val (.int p3), .val (.int p4), .val (.long r1), .second, .val (.long r2), .second, .val (.ref b10), .val (.long (p4.toInt64)), .second, .val (.int (own_b (¬ (p4.toInt64) < (p4.toInt64)))), .val (.int (own_b (¬ (p4.toInt64) < ((p4.toInt64) + (1 : Int64))))), .val (.long (own_min r1 r2)), .second, .val (.long (own_max r1 r2)), .second, .val (.int (own_b (¬ (p4.toInt64) < (own_max r1 r2)))), .val (.int (own_b (¬ (p4.toInt64) < (own_min r1 r2)))), .unset] [(.int (own_b (¬ (p4.toInt64) < (own_min r1 r2))))]))
    refine own_go (XS.ifNo X17.here hx rfl (hb hby at_94) rfl ((if0 _ _).trans (feq (own_b_nz (own_mono _ _ _ hc89))).1) (Steps.refl _)) ?_
    show own_Go p e below _ (T17.setTop (mkF m 97 #[.val (.int p1), .val (.int p2), .val (.int p3), .val (.int p4), .val (.long r1), .second, .val (.long r2), .second, .val (.ref b10), .val (.long (p4.toInt64)), .second, .val (.int (own_b (¬ (p4.toInt64) < (p4.toInt64)))), .val (.int (own_b (¬ (p4.toInt64) < ((p4.toInt64) + (1 : Int64))))), .val (.long (own_min r1 r2)), .second, .val (.long (own_max r1 r2)), .second, .val (.int (own_b (¬ (p4.toInt64) < (own_max r1 r2)))), .val (.int (own_b (¬ (p4.toInt64) < (own_min r1 r2)))), .unset] []))
    refine own_go (XS.iconst X17.here hx rfl (hb hby at_97) (Steps.refl _)) ?_
    show own_Go p e below _ (T17.setTop (mkF m 98 #[.val (.int p1), .val (.int p2), .val (.int p3), .val (.int p4), .val (.long r1), .second, .val (.long r2), .second, .val (.ref b10), .val (.long (p4.toInt64)), .second, .val (.int (own_b (¬ (p4.toInt64) < (p4.toInt64)))), .val (.int (own_b (¬ (p4.toInt64) < ((p4.toInt64) + (1 : Int64))))), .val (.long (own_min r1 r2)), .second, .val (.long (own_max r1 r2)), .second, .val (.int (own_b (¬ (p4.toInt64) < (own_max r1 r2)))), .val (.int (own_b (¬ (p4.toInt64) < (own_min r1 r2)))), .unset] [(.int (1 : Int32))]))
    refine own_go (XS.goto X17.here hx rfl (pc0 := 98) (pc' := 102) rfl (hb hby at_98) (by decide) (by decide) (Steps.refl _)) ?_
    show own_Go p e below _ (T17.setTop (mkF m 102 #[.val (.int p1), .val (.int p2), .val (.int p3), .val (.int p4), .val (.long r1), .second, .val (.long r2), .second, .val (.ref b10), .val (.long (p4.toInt64)), .second, .val (.int (own_b (¬ (p4.toInt64) < (p4.toInt64)))), .val (.int (own_b (¬ (p4.toInt64) < ((p4.toInt64) + (1 : Int64))))), .val (.long (own_min r1 r2)), .second, .val (.long (own_max r1 r2)), .second, .val (.int (own_b (¬ (p4.toInt64) < (own_max r1 r2)))), .val (.int (own_b (¬ (p4.toInt64) < (own_min r1 r2)))), .unset] [(.int (1 : Int32))]))
    refine own_go (XS.istore X17.here hx rfl (hb hby at_102) rfl (l' := #[.val (.int p1), .val (.int p2), .val (.int p3), .val (.int p4), .val (.long r1), .second, .val (.long r2), .second, .val (.ref b10), .val (.long (p4.toInt64)), .second, .val (.int (own_b (¬ (p4.toInt64) < (p4.toInt64)))), .val (.int (own_b (¬ (p4.toInt64) < ((p4.toInt64) + (1 : Int64))))), .val (.long (own_min r1 r2)), .second, .val (.long (own_max r1 r2)), .second, .val (.int (own_b (¬ (p4.toInt64) < (own_max r1 r2)))), .val (.int (own_b (¬ (p4.toInt64) < (own_min r1 r2)))), .val (.int (1 : Int32))]) rfl (Steps.refl _)) ?_
    show own_Go p e below _ (T17.setTop (mkF m 104 #[.val (.int p1), .val (.int p2), .val (.int p3), .val (.int p4), .val (.long r1), .second, .val (.long r2), .second, .val (.ref b10), .val (.long (p4.toInt64)), .second, .val (.int (own_b (¬ (p4.toInt64) < (p4.toInt64)))), .val (.int (own_b (¬ (p4.toInt64) < ((p4.toInt64) + (1 : Int64))))), .val (.long (own_min r1 r2)), .second, .val (.long (own_max r1 r2)), .second, .val (.int (own_b (¬ (p4.toInt64) < (own_max r1 r2)))), .val (.int (own_b (¬ (p4.toInt64) < (own_min r1 r2)))), .val (.int (1 : Int32))] []))
    refine own_go (XS.iload X17.here hx rfl (hb hby at_104) rfl (Steps.refl _)) ?_
    show own_Go p e below _ (T17.setTop (mkF m 106 #[.val (.int p1), .val (.int p2), .val (.int p3), .val (.int p4), .val (.long r1), .second, .val (.long r2), .second, .val (.ref b10), .val (.long (p4.toInt64)), .second, .val (.int (own_b (¬ (p4.toInt64) < (p4.toInt64)))), .val (.int (own_b (¬ (p4.toInt64) < ((p4.toInt64) + (1 : Int64))))), .val (.long (own_min r1 r2)), .second, .val (.long (own_max r1 r2)), .second, .val (.int (own_b (¬ (p4.toInt64) < (own_max r1 r2)))), .val (.int (own_b (¬ (p4.toInt64) < (own_min r1 r2)))), .val (.int (1 : Int32))] [(.int (own_b (¬ (p4.toInt64) < (p4.toInt64))))]))
    refine own_go (XS.ifNo X17.here hx rfl (hb hby at_106) rfl ((if0 _ _).trans (feq (own_b_nz (own_same _))).1) (Steps.refl _)) ?_
    show own_Go p e below _ (T17.setTop (mkF m 109 #[.val (.int p1), .val (.int p2), .val (.int p3), .val (.int p4), .val (.long r1), .second, .val (.long r2), .second, .val (.ref b10), .val (.long (p4.toInt64)), .second, .val (.int (own_b (¬ (p4.toInt64) < (p4.toInt64)))), .val (.int (own_b (¬ (p4.toInt64) < ((p4.toInt64) + (1 : Int64))))), .val (.long (own_min r1 r2)), .second, .val (.long (own_max r1 r2)), .second, .val (.int (own_b (¬ (p4.toInt64) < (own_max r1 r2)))), .val (.int (own_b (¬ (p4.toInt64) < (own_min r1 r2)))), .val (.int (1 : Int32))] []))
    refine own_go (XS.iload X17.here hx rfl (hb hby at_109) rfl (Steps.refl _)) ?_
    show own_Go p e below _ (T17.setTop (mkF m 111 #[.val (.int p1), .val (.int p2), .val (.int p3), .val (.int p4), .val (.long r1), .second, .val (.long r2), .second, .val (.ref b10), .val (.long (p4.toInt64)), .second, .val (.int (own_b (¬ (p4.toInt64) < (p4.toInt64)))), .val (.int (own_b (¬ (p4.toInt64) < ((p4.toInt64) + (1 : Int64))))), .val (.long (own_min r1 r2)), .second, .val (.long (own_max r1 r2)), .second, .val (.int (own_b (¬ (p4.toInt64) < (own_max r1 r2)))), .val (.int (own_b (¬ (p4.toInt64) < (own_min r1 r2)))), .val (.int (1 : Int32))] [(.int (own_b (¬ (p4.toInt64) < ((p4.toInt64) + (1 : Int64)))))]))
    refine own_go (XS.ifNo X17.here hx rfl (hb hby at_111) rfl ((if0 _ _).trans (teq (own_b_f (fun q => q (own_next _)))).2) (Steps.refl _)) ?_
    show own_Go p e below _ (T17.setTop (mkF m 114 #[.val (.int p1), .val (.int p2), .val (.int p3), .val (.int p4), .val (.long r1), .second, .val (.long r2), .second, .val (.ref b10), .val (.long (p4.toInt64)), .second, .val (.int (own_b (¬ (p4.toInt64) < (p4.toInt64)))), .val (.int (own_b (¬ (p4.toInt64) < ((p4.toInt64) + (1 : Int64))))), .val (.long (own_min r1 r2)), .second, .val (.long (own_max r1 r2)), .second, .val (.int (own_b (¬ (p4.toInt64) < (own_max r1 r2)))), .val (.int (own_b (¬ (p4.toInt64) < (own_min r1 r2)))), .val (.int (1 : Int32))] []))
    refine own_go (XS.iload X17.here hx rfl (hb hby at_114) rfl (Steps.refl _)) ?_
    show own_Go p e below _ (T17.setTop (mkF m 116 #[.val (.int p1), .val (.int p2), .val (.int p3), .val (.int p4), .val (.long r1), .second, .val (.long r2), .second, .val (.ref b10), .val (.long (p4.toInt64)), .second, .val (.int (own_b (¬ (p4.toInt64) < (p4.toInt64)))), .val (.int (own_b (¬ (p4.toInt64) < ((p4.toInt64) + (1 : Int64))))), .val (.long (own_min r1 r2)), .second, .val (.long (own_max r1 r2)), .second, .val (.int (own_b (¬ (p4.toInt64) < (own_max r1 r2)))), .val (.int (own_b (¬ (p4.toInt64) < (own_min r1 r2)))), .val (.int (1 : Int32))] [(.int (1 : Int32))]))
    refine own_go (XS.ifNo X17.here hx rfl (hb hby at_116) rfl ((if0 _ _).trans (feq (by decide : ¬ ((1 : Int32) = (0 : Int32)))).1) (Steps.refl _)) ?_
    show own_Go p e below _ (T17.setTop (mkF m 119 #[.val (.int p1), .val (.int p2), .val (.int p3), .val (.int p4), .val (.long r1), .second, .val (.long r2), .second, .val (.ref b10), .val (.long (p4.toInt64)), .second, .val (.int (own_b (¬ (p4.toInt64) < (p4.toInt64)))), .val (.int (own_b (¬ (p4.toInt64) < ((p4.toInt64) + (1 : Int64))))), .val (.long (own_min r1 r2)), .second, .val (.long (own_max r1 r2)), .second, .val (.int (own_b (¬ (p4.toInt64) < (own_max r1 r2)))), .val (.int (own_b (¬ (p4.toInt64) < (own_min r1 r2)))), .val (.int (1 : Int32))] []))
    refine own_go (XS.iconst X17.here hx rfl (hb hby at_119) (Steps.refl _)) ?_
    show own_Go p e below _ (T17.setTop (mkF m 120 #[.val (.int p1), .val (.int p2), .val (.int p3), .val (.int p4), .val (.long r1), .second, .val (.long r2), .second, .val (.ref b10), .val (.long (p4.toInt64)), .second, .val (.int (own_b (¬ (p4.toInt64) < (p4.toInt64)))), .val (.int (own_b (¬ (p4.toInt64) < ((p4.toInt64) + (1 : Int64))))), .val (.long (own_min r1 r2)), .second, .val (.long (own_max r1 r2)), .second, .val (.int (own_b (¬ (p4.toInt64) < (own_max r1 r2)))), .val (.int (own_b (¬ (p4.toInt64) < (own_min r1 r2)))), .val (.int (1 : Int32))] [(.int (1 : Int32))]))
    refine own_go (XS.goto X17.here hx rfl (pc0 := 120) (pc' := 124) rfl (hb hby at_120) (by decide) (by decide) (Steps.refl _)) ?_
    show own_Go p e below _ (T17.setTop (mkF m 124 #[.val (.int p1), .val (.int p2), .val (.int p3), .val (.int p4), .val (.long r1), .second, .val (.long r2), .second, .val (.ref b10), .val (.long (p4.toInt64)), .second, .val (.int (own_b (¬ (p4.toInt64) < (p4.toInt64)))), .val (.int (own_b (¬ (p4.toInt64) < ((p4.toInt64) + (1 : Int64))))), .val (.long (own_min r1 r2)), .second, .val (.long (own_max r1 r2)), .second, .val (.int (own_b (¬ (p4.toInt64) < (own_max r1 r2)))), .val (.int (own_b (¬ (p4.toInt64) < (own_min r1 r2)))), .val (.int (1 : Int32))] [(.int (1 : Int32))]))
    exact own_retZ X17 hx hlk e17 Bd.returns (hb hby at_124) (Or.inr rfl) ⟨rfl, N11⟩ (by decide) (by decide)
  · refine own_go (XS.ifYes X17.here hx rfl (pc0 := 89) (pc' := 97) rfl (hb hby at_89) rfl ((if0 _ _).trans (teq (own_b_f hc89)).1) (by decide) (by decide) (Steps.refl _)) ?_
    show own_Go p e below _ (T17.setTop (mkF m 97 #[.val (.int p1), .val (.int p2), .val (.int p3), .val (.int p4), .val (.long r1), .second, .val (.long r2), .second, .val (.ref b10), .val (.long (p4.toInt64)), .second, .val (.int (own_b (¬ (p4.toInt64) < (p4.toInt64)))), .val (.int (own_b (¬ (p4.toInt64) < ((p4.toInt64) + (1 : Int64))))), .val (.long (own_min r1 r2)), .second, .val (.long (own_max r1 r2)), .second, .val (.int (own_b (¬ (p4.toInt64) < (own_max r1 r2)))), .val (.int (own_b (¬ (p4.toInt64) < (own_min r1 r2)))), .unset] []))
    refine own_go (XS.iconst X17.here hx rfl (hb hby at_97) (Steps.refl _)) ?_
    show own_Go p e below _ (T17.setTop (mkF m 98 #[.val (.int p1), .val (.int p2), .val (.int p3), .val (.int p4), .val (.long r1), .second, .val (.long r2), .second, .val (.ref b10), .val (.long (p4.toInt64)), .second, .val (.int (own_b (¬ (p4.toInt64) < (p4.toInt64)))), .val (.int (own_b (¬ (p4.toInt64) < ((p4.toInt64) + (1 : Int64))))), .val (.long (own_min r1 r2)), .second, .val (.long (own_max r1 r2)), .second, .val (.int (own_b (¬ (p4.toInt64) < (own_max r1 r2)))), .val (.int (own_b (¬ (p4.toInt64) < (own_min r1 r2)))), .unset] [(.int (1 : Int32))]))
    refine own_go (XS.goto X17.here hx rfl (pc0 := 98) (pc' := 102) rfl (hb hby at_98) (by decide) (by decide) (Steps.refl _)) ?_
    show own_Go p e below _ (T17.setTop (mkF m 102 #[.val (.int p1), .val (.int p2), .val (.int p3), .val (.int p4), .val (.long r1), .second, .val (.long r2), .second, .val (.ref b10), .val (.long (p4.toInt64)), .second, .val (.int (own_b (¬ (p4.toInt64) < (p4.toInt64)))), .val (.int (own_b (¬ (p4.toInt64) < ((p4.toInt64) + (1 : Int64))))), .val (.long (own_min r1 r2)), .second, .val (.long (own_max r1 r2)), .second, .val (.int (own_b (¬ (p4.toInt64) < (own_max r1 r2)))), .val (.int (own_b (¬ (p4.toInt64) < (own_min r1 r2)))), .unset] [(.int (1 : Int32))]))
    refine own_go (XS.istore X17.here hx rfl (hb hby at_102) rfl (l' := #[.val (.int p1), .val (.int p2), .val (.int p3), .val (.int p4), .val (.long r1), .second, .val (.long r2), .second, .val (.ref b10), .val (.long (p4.toInt64)), .second, .val (.int (own_b (¬ (p4.toInt64) < (p4.toInt64)))), .val (.int (own_b (¬ (p4.toInt64) < ((p4.toInt64) + (1 : Int64))))), .val (.long (own_min r1 r2)), .second, .val (.long (own_max r1 r2)), .second, .val (.int (own_b (¬ (p4.toInt64) < (own_max r1 r2)))), .val (.int (own_b (¬ (p4.toInt64) < (own_min r1 r2)))), .val (.int (1 : Int32))]) rfl (Steps.refl _)) ?_
    show own_Go p e below _ (T17.setTop (mkF m 104 #[.val (.int p1), .val (.int p2), .val (.int p3), .val (.int p4), .val (.long r1), .second, .val (.long r2), .second, .val (.ref b10), .val (.long (p4.toInt64)), .second, .val (.int (own_b (¬ (p4.toInt64) < (p4.toInt64)))), .val (.int (own_b (¬ (p4.toInt64) < ((p4.toInt64) + (1 : Int64))))), .val (.long (own_min r1 r2)), .second, .val (.long (own_max r1 r2)), .second, .val (.int (own_b (¬ (p4.toInt64) < (own_max r1 r2)))), .val (.int (own_b (¬ (p4.toInt64) < (own_min r1 r2)))), .val (.int (1 : Int32))] []))
    refine own_go (XS.iload X17.here hx rfl (hb hby at_104) rfl (Steps.refl _)) ?_
    show own_Go p e below _ (T17.setTop (mkF m 106 #[.val (.int p1), .val (.int p2), .val (.int p3), .val (.int p4), .val (.long r1), .second, .val (.long r2), .second, .val (.ref b10), .val (.long (p4.toInt64)), .second, .val (.int (own_b (¬ (p4.toInt64) < (p4.toInt64)))), .val (.int (own_b (¬ (p4.toInt64) < ((p4.toInt64) + (1 : Int64))))), .val (.long (own_min r1 r2)), .second, .val (.long (own_max r1 r2)), .second, .val (.int (own_b (¬ (p4.toInt64) < (own_max r1 r2)))), .val (.int (own_b (¬ (p4.toInt64) < (own_min r1 r2)))), .val (.int (1 : Int32))] [(.int (own_b (¬ (p4.toInt64) < (p4.toInt64))))]))
    refine own_go (XS.ifNo X17.here hx rfl (hb hby at_106) rfl ((if0 _ _).trans (feq (own_b_nz (own_same _))).1) (Steps.refl _)) ?_
    show own_Go p e below _ (T17.setTop (mkF m 109 #[.val (.int p1), .val (.int p2), .val (.int p3), .val (.int p4), .val (.long r1), .second, .val (.long r2), .second, .val (.ref b10), .val (.long (p4.toInt64)), .second, .val (.int (own_b (¬ (p4.toInt64) < (p4.toInt64)))), .val (.int (own_b (¬ (p4.toInt64) < ((p4.toInt64) + (1 : Int64))))), .val (.long (own_min r1 r2)), .second, .val (.long (own_max r1 r2)), .second, .val (.int (own_b (¬ (p4.toInt64) < (own_max r1 r2)))), .val (.int (own_b (¬ (p4.toInt64) < (own_min r1 r2)))), .val (.int (1 : Int32))] []))
    refine own_go (XS.iload X17.here hx rfl (hb hby at_109) rfl (Steps.refl _)) ?_
    show own_Go p e below _ (T17.setTop (mkF m 111 #[.val (.int p1), .val (.int p2), .val (.int p3), .val (.int p4), .val (.long r1), .second, .val (.long r2), .second, .val (.ref b10), .val (.long (p4.toInt64)), .second, .val (.int (own_b (¬ (p4.toInt64) < (p4.toInt64)))), .val (.int (own_b (¬ (p4.toInt64) < ((p4.toInt64) + (1 : Int64))))), .val (.long (own_min r1 r2)), .second, .val (.long (own_max r1 r2)), .second, .val (.int (own_b (¬ (p4.toInt64) < (own_max r1 r2)))), .val (.int (own_b (¬ (p4.toInt64) < (own_min r1 r2)))), .val (.int (1 : Int32))] [(.int (own_b (¬ (p4.toInt64) < ((p4.toInt64) + (1 : Int64)))))]))
    refine own_go (XS.ifNo X17.here hx rfl (hb hby at_111) rfl ((if0 _ _).trans (teq (own_b_f (fun q => q (own_next _)))).2) (Steps.refl _)) ?_
    show own_Go p e below _ (T17.setTop (mkF m 114 #[.val (.int p1), .val (.int p2), .val (.int p3), .val (.int p4), .val (.long r1), .second, .val (.long r2), .second, .val (.ref b10), .val (.long (p4.toInt64)), .second, .val (.int (own_b (¬ (p4.toInt64) < (p4.toInt64)))), .val (.int (own_b (¬ (p4.toInt64) < ((p4.toInt64) + (1 : Int64))))), .val (.long (own_min r1 r2)), .second, .val (.long (own_max r1 r2)), .second, .val (.int (own_b (¬ (p4.toInt64) < (own_max r1 r2)))), .val (.int (own_b (¬ (p4.toInt64) < (own_min r1 r2)))), .val (.int (1 : Int32))] []))
    refine own_go (XS.iload X17.here hx rfl (hb hby at_114) rfl (Steps.refl _)) ?_
    show own_Go p e below _ (T17.setTop (mkF m 116 #[.val (.int p1), .val (.int p2), .val (.int p3), .val (.int p4), .val (.long r1), .second, .val (.long r2), .second, .val (.ref b10), .val (.long (p4.toInt64)), .second, .val (.int (own_b (¬ (p4.toInt64) < (p4.toInt64)))), .val (.int (own_b (¬ (p4.toInt64) < ((p4.toInt64) + (1 : Int64))))), .val (.long (own_min r1 r2)), .second, .val (.long (own_max r1 r2)), .second, .val (.int (own_b (¬ (p4.toInt64) < (own_max r1 r2)))), .val (.int (own_b (¬ (p4.toInt64) < (own_min r1 r2)))), .val (.int (1 : Int32))] [(.int (1 : Int32))]))
    refine own_go (XS.ifNo X17.here hx rfl (hb hby at_116) rfl ((if0 _ _).trans (feq (by decide : ¬ ((1 : Int32) = (0 : Int32)))).1) (Steps.refl _)) ?_
    show own_Go p e below _ (T17.setTop (mkF m 119 #[.val (.int p1), .val (.int p2), .val (.int p3), .val (.int p4), .val (.long r1), .second, .val (.long r2), .second, .val (.ref b10), .val (.long (p4.toInt64)), .second, .val (.int (own_b (¬ (p4.toInt64) < (p4.toInt64)))), .val (.int (own_b (¬ (p4.toInt64) < ((p4.toInt64) + (1 : Int64))))), .val (.long (own_min r1 r2)), .second, .val (.long (own_max r1 r2)), .second, .val (.int (own_b (¬ (p4.toInt64) < (own_max r1 r2)))), .val (.int (own_b (¬ (p4.toInt64) < (own_min r1 r2)))), .val (.int (1 : Int32))] []))
    refine own_go (XS.iconst X17.here hx rfl (hb hby at_119) (Steps.refl _)) ?_
    show own_Go p e below _ (T17.setTop (mkF m 120 #[.val (.int p1), .val (.int p2), .val (.int p3), .val (.int p4), .val (.long r1), .second, .val (.long r2), .second, .val (.ref b10), .val (.long (p4.toInt64)), .second, .val (.int (own_b (¬ (p4.toInt64) < (p4.toInt64)))), .val (.int (own_b (¬ (p4.toInt64) < ((p4.toInt64) + (1 : Int64))))), .val (.long (own_min r1 r2)), .second, .val (.long (own_max r1 r2)), .second, .val (.int (own_b (¬ (p4.toInt64) < (own_max r1 r2)))), .val (.int (own_b (¬ (p4.toInt64) < (own_min r1 r2)))), .val (.int (1 : Int32))] [(.int (1 : Int32))]))
    refine own_go (XS.goto X17.here hx rfl (pc0 := 120) (pc' := 124) rfl (hb hby at_120) (by decide) (by decide) (Steps.refl _)) ?_
    show own_Go p e below _ (T17.setTop (mkF m 124 #[.val (.int p1), .val (.int p2), .val (.int p3), .val (.int p4), .val (.long r1), .second, .val (.long r2), .second, .val (.ref b10), .val (.long (p4.toInt64)), .second, .val (.int (own_b (¬ (p4.toInt64) < (p4.toInt64)))), .val (.int (own_b (¬ (p4.toInt64) < ((p4.toInt64) + (1 : Int64))))), .val (.long (own_min r1 r2)), .second, .val (.long (own_max r1 r2)), .second, .val (.int (own_b (¬ (p4.toInt64) < (own_max r1 r2)))), .val (.int (own_b (¬ (p4.toInt64) < (own_min r1 r2)))), .val (.int (1 : Int32))] [(.int (1 : Int32))]))
    exact own_retZ X17 hx hlk e17 Bd.returns (hb hby at_124) (Or.inr rfl) ⟨rfl, N11⟩ (by decide) (by decide)
set_option maxRecDepth 65536 in
set_option maxHeartbeats 40000000 in
theorem comes_1 {Post : Tables → Env → Array Value → State → Outcome → State → Prop} (hpost : ∀ tb e args s v u, (limb_1_1.after args s (.returned v) u = true ∧ limb_1_2.after args s (.returned v) u = true ∧ True) → FrameEnd s (.returned v) u (Jvm.fieldLocs frame_1_writes args s ++ Jvm.arrayLocs frame_1_arrays args s ++ Jvm.staticLocs frame_1_statics s) 16 128 → Post tb e args s (.returned v) u) :
    ArmFor flags0 classFile x code maxLocals ret World_1 tables_1 room_1 Calls_1 rest_1 Pre_1 Post := by
  intro l hfl _ _ p e ha hc hk s m args below hf hA hF happ hP
  obtain ⟨hcalls, hrest, hpre⟩ := hP
  obtain ⟨-, -, -, hnamed, -, -, -, hat⟩ := (Spec.applies_iff hf).mp happ
  obtain ⟨hg, hn⟩ := and_e (Cond.before_iff.mp (show (Jvm.Cond.and given_1 narrow_1).before args s = true from hpre))
  obtain ⟨gc, ga0⟩ := and_e hg
  obtain ⟨w0, w1, w2, w3, w4, w5, rfl⟩ : ∃ w0 w1 w2 w3 w4 w5 : Value, args = #[w0, w1, w2, w3, w4, w5] := by
    have hs : args.size = 6 := by simpa [Cond.value, given_1] using gc
    obtain ⟨L⟩ := args
    match L, hs with
    | [w0, w1, w2, w3, w4, w5], _ => exact ⟨w0, w1, w2, w3, w4, w5, rfl⟩
  have hw := fun d (hd : d ∈ tables_1) => atoms_spec (ws := Jvm.Cond.code x code maxLocals ret :: tables_1) hat d (List.mem_cons_of_mem _ hd)
  obtain ⟨gb0, ga1⟩ := and_e ga0
  obtain ⟨i0, ei0⟩ := is_v gb0
  obtain rfl : w0 = (.int i0) := Option.some.inj ei0
  obtain ⟨gb1, ga2⟩ := and_e ga1
  obtain ⟨i1, ei1⟩ := is_v gb1
  obtain rfl : w1 = (.int i1) := Option.some.inj ei1
  obtain ⟨gb2, ga3⟩ := and_e ga2
  obtain ⟨i2, ei2⟩ := is_v gb2
  obtain rfl : w2 = (.int i2) := Option.some.inj ei2
  obtain ⟨gb3, ga4⟩ := and_e ga3
  obtain ⟨i3, ei3⟩ := is_v gb3
  obtain rfl : w3 = (.int i3) := Option.some.inj ei3
  obtain ⟨gb4, ga5⟩ := and_e ga4
  obtain ⟨i4, ei4⟩ := isL_v gb4
  obtain rfl : w4 = (.long i4) := Option.some.inj ei4
  obtain ⟨i5, ei5⟩ := isL_v ga5
  obtain rfl : w5 = (.long i5) := Option.some.inj ei5
  obtain ⟨n, o, h1, h2, h3, _, L, rfl, ⟨rfl, N⟩, hq⟩ := rm_law l s _ hw i0 i1 i2 i3 i4 i5 s.heap s.heap.size (Nat.le_refl _) p e ha hc hk s m _ below hf ((Spec.applies_iff_loose hf).mp happ).1 ⟨rfl, State.Warmed39.refl s, rfl⟩ trivial
  exact ⟨n, _, h1, h2, h3, hpost _ _ _ _ _ _ ⟨Cond.after_iff.mpr rfl, Cond.after_iff.mpr (eq_i res_at (Term.int_eval (1)) rfl), trivial⟩ ⟨hq.1, hq.2.1, (hq.2.2.sift fun y hy => Or.inr (N y hy)).mono (by decide) (by decide)⟩⟩
theorem main_1_1 : Claimed_1_1 := comes_1 fun _ _ _ _ _ _ h hF => ⟨h.1, hF⟩
theorem main_1_2 : Claimed_1_2 := comes_1 fun _ _ _ _ _ _ h hF => ⟨h.2.1, hF⟩
end Jvm.Pilot.@@N@@
namespace Jvm.Pilot.@@N@@
open Jvm Jvm.ClassFile Sem Op Lib Jvm.Free Jvm.Stand Jvm.Pilot.@@N@@.Jvm.D
/-! MADE BY PROGRAM (witnessworld.py) out of the Statement's table words and the real class files: 11 classes; the members and pool entries that the words name. The judged class is class 1, her method 1. -/
namespace start1
open Jvm.ClassFile
def u (s : String) : CpInfo := .utf8 (stringToUtf16 s)
/-- a pool by its gaps: so many unusable entries, then the entry; so many at the end -/
def gap : Nat → List CpInfo → List CpInfo
  | 0, r => r
  | n + 1, r => .unusable :: gap n r
def poolList (es : List (Nat × CpInfo)) (last : Nat) : List CpInfo := es.foldr (fun e r => gap e.1 (e.2 :: r)) (gap last [])
def pool (es : List (Nat × CpInfo)) (last : Nat) : Array CpInfo := ⟨poolList es last⟩
def fileOf (pool : Array CpInfo) (this : Nat) (attrs : Array Attribute := #[]) (ms : Array MethodInfo := #[]) (fl : Nat := 33) (sup : Nat := 0) (ifs : Array Nat := #[]) (fds : Array FieldInfo := #[]) : ClassFile where
  minorVersion := 0
  majorVersion := 65
  constantPool := pool
  accessFlags := fl
  thisClass := this
  superClass := sup
  interfaces := ifs
  fields := fds
  methods := ms
  attributes := attrs
def plain (name : String) (sup : Option ClassId) : Class where
  name := name
  kind := .ordinary
  loader := none
  accessFlags := 33
  super := sup
  interfaces := #[]
  cf := none
  fields := #[]
  methods := #[]
  instanceTypes := #[]
  staticTypes := #[]
  resolved := #[]
  callSites := []
  init := .initialized
  statics := none
  mirror := none

def pool0 : Array CpInfo := pool [(5, u "<init>"), (0, u "()V"), (1, .class_ 10), (1, u "java/lang/Object")] 113

def k0c0 : Code := { maxStack := 0, maxLocals := 1, code := object_method_1_code, exceptionTable := #[], attributes := #[] }
def k0m0 : Method := { name := "<init>", desc := "()V", sig := { parameters := [], returnType := none }, accessFlags := 1, code := some k0c0 }
/-- java/lang/Object -/
def k0 : Class := { plain "java/lang/Object" none with
  accessFlags := 33
  interfaces := #[]
  cf := some (fileOf pool0 8 #[] #[{ accessFlags := 1, nameIndex := 5, descriptorIndex := 6, attributes := #[] }] 33 0 #[] #[])
  fields := #[]
  methods := #[k0m0]
  instanceTypes := #[]
  staticTypes := #[]
  resolved := Array.replicate 124 none
  statics := none }

def pool1 : Array CpInfo := pool [(2, .class_ 4), (1, u "java/lang/Object"), (0, u "<init>"), (0, u "()V"), (0, .class_ 8), (0, u "com/example/inch_scaler/inchscaler/FleetSettings"), (0, .methodref 7 10), (0, .nameAndType 5 11), (0, u "(IIIIII)V"), (0, .methodref 7 13), (0, .nameAndType 14 15), (0, u "inTime"), (0, u "(J)Z"), (0, .methodref 17 18), (0, .class_ 19), (0, .nameAndType 20 21), (0, u "java/lang/Math"), (0, u "min"), (0, u "(JJ)J"), (0, .methodref 17 23), (0, .nameAndType 24 21), (0, u "max"), (0, .class_ 26), (0, u "com/example/inch_scaler/inchscaler/FleetSettingsInTimePinLaw"), (2, u "law"), (0, u "(IIIIJJ)Z")] 3

def k1m0 : Method := { name := "<init>", desc := "()V", sig := { parameters := [], returnType := none }, accessFlags := 1, code := none }
def k1c1 : Code := { maxStack := 8, maxLocals := 20, code := code, exceptionTable := #[], attributes := #[] }
def k1m1 : Method := { name := "law", desc := "(IIIIJJ)Z", sig := { parameters := [.int, .int, .int, .int, .long, .long], returnType := some .boolean }, accessFlags := 9, code := some k1c1 }
/-- com/example/inch_scaler/inchscaler/FleetSettingsInTimePinLaw -/
def k1 : Class := { plain "com/example/inch_scaler/inchscaler/FleetSettingsInTimePinLaw" (some 0) with
  accessFlags := 49
  interfaces := #[]
  cf := some (fileOf pool1 25 #[] #[{ accessFlags := 1, nameIndex := 5, descriptorIndex := 6, attributes := #[] }, { accessFlags := 9, nameIndex := 29, descriptorIndex := 30, attributes := #[] }] 49 2 #[] #[])
  fields := #[]
  methods := #[k1m0, k1m1]
  instanceTypes := #[]
  staticTypes := #[]
  resolved := Array.replicate 34 none
  statics := none }

def pool2 : Array CpInfo := pool [(1, .methodref 2 3), (0, .class_ 4), (0, .nameAndType 5 6), (0, u "java/lang/Object"), (0, u "<init>"), (0, u "()V"), (0, .class_ 8), (0, u "java/lang/Record")] 13

def k2c0 : Code := { maxStack := 1, maxLocals := 1, code := jdk_30_method_1_code, exceptionTable := #[], attributes := #[] }
def k2m0 : Method := { name := "<init>", desc := "()V", sig := { parameters := [], returnType := none }, accessFlags := 4, code := some k2c0 }
/-- java/lang/Record -/
def k2 : Class := { plain "java/lang/Record" (some 0) with
  accessFlags := 1057
  interfaces := #[]
  cf := some (fileOf pool2 7 #[] #[{ accessFlags := 4, nameIndex := 5, descriptorIndex := 6, attributes := #[] }] 1057 2 #[] #[])
  fields := #[]
  methods := #[k2m0]
  instanceTypes := #[]
  staticTypes := #[]
  resolved := Array.replicate 22 none
  statics := none }

def pool3 : Array CpInfo := pool [(1, .methodref 2 3), (0, .class_ 4), (0, .nameAndType 5 6), (0, u "java/lang/Record"), (0, u "<init>"), (0, u "()V"), (0, .fieldref 8 9), (0, .class_ 10), (0, .nameAndType 11 12), (0, u "com/example/inch_scaler/inchscaler/FleetSettings"), (0, u "fronts"), (0, u "I"), (0, .fieldref 8 14), (0, .nameAndType 15 12), (0, u "apps"), (0, .fieldref 8 17), (0, .nameAndType 18 12), (0, u "bootMs"), (0, .fieldref 8 20), (0, .nameAndType 21 12), (0, u "frontMs"), (0, .fieldref 8 23), (0, .nameAndType 24 12), (0, u "appMs"), (0, .fieldref 8 26), (0, .nameAndType 27 12), (0, u "deadlineMs"), (12, u "(IIIIII)V"), (3, u "inTime"), (0, u "(J)Z")] 29

def k3c0 : Code := { maxStack := 2, maxLocals := 7, code := prog_13_method_1_code, exceptionTable := #[], attributes := #[] }
def k3m0 : Method := { name := "<init>", desc := "(IIIIII)V", sig := { parameters := [.int, .int, .int, .int, .int, .int], returnType := none }, accessFlags := 0, code := some k3c0 }
def k3c1 : Code := { maxStack := 4, maxLocals := 3, code := prog_13_method_2_code, exceptionTable := #[], attributes := #[] }
def k3m1 : Method := { name := "inTime", desc := "(J)Z", sig := { parameters := [.long], returnType := some .boolean }, accessFlags := 0, code := some k3c1 }
/-- com/example/inch_scaler/inchscaler/FleetSettings -/
def k3 : Class := { plain "com/example/inch_scaler/inchscaler/FleetSettings" (some 2) with
  accessFlags := 48
  interfaces := #[]
  cf := some (fileOf pool3 8 #[] #[{ accessFlags := 0, nameIndex := 5, descriptorIndex := 40, attributes := #[] }, { accessFlags := 0, nameIndex := 44, descriptorIndex := 45, attributes := #[] }] 48 2 #[] #[{ accessFlags := 18, nameIndex := 11, descriptorIndex := 12, attributes := #[] }, { accessFlags := 18, nameIndex := 15, descriptorIndex := 12, attributes := #[] }, { accessFlags := 18, nameIndex := 18, descriptorIndex := 12, attributes := #[] }, { accessFlags := 18, nameIndex := 21, descriptorIndex := 12, attributes := #[] }, { accessFlags := 18, nameIndex := 24, descriptorIndex := 12, attributes := #[] }, { accessFlags := 18, nameIndex := 27, descriptorIndex := 12, attributes := #[] }])
  fields := #[{ name := "fronts", type := .int, accessFlags := 18, slot := 0, constantValue := 0 }, { name := "apps", type := .int, accessFlags := 18, slot := 1, constantValue := 0 }, { name := "bootMs", type := .int, accessFlags := 18, slot := 2, constantValue := 0 }, { name := "frontMs", type := .int, accessFlags := 18, slot := 3, constantValue := 0 }, { name := "appMs", type := .int, accessFlags := 18, slot := 4, constantValue := 0 }, { name := "deadlineMs", type := .int, accessFlags := 18, slot := 5, constantValue := 0 }]
  methods := #[k3m0, k3m1]
  instanceTypes := #[.int, .int, .int, .int, .int, .int]
  staticTypes := #[]
  resolved := Array.replicate 75 none
  statics := none }

def pool4 : Array CpInfo := pool [(1, .class_ 2), (0, u "java/lang/Math"), (1, .class_ 6), (1, u "java/lang/Object"), (0, u "<init>"), (0, u "()V"), (89, .class_ 100), (1, u "java/lang/Math$RandomNumberGeneratorHolder"), (20, u "(JJ)J"), (50, u "negativeZeroFloatBits"), (0, u "J"), (2, u "negativeZeroDoubleBits"), (21, u "max"), (2, u "min"), (43, u "$assertionsDisabled"), (0, u "Z"), (91, u "twoToTheDoubleScaleDown"), (0, u "D"), (4, u "twoToTheDoubleScaleUp"), (9, u "E"), (3, u "PI"), (2, u "TAU"), (2, u "DEGREES_TO_RADIANS"), (0, u "RADIANS_TO_DEGREES")] 94

def k4m0 : Method := { name := "<init>", desc := "()V", sig := { parameters := [], returnType := none }, accessFlags := 2, code := none }
def k4c1 : Code := { maxStack := 4, maxLocals := 4, code := jdk_29_method_66_code, exceptionTable := #[], attributes := #[] }
def k4m1 : Method := { name := "max", desc := "(JJ)J", sig := { parameters := [.long, .long], returnType := some .long }, accessFlags := 9, code := some k4c1 }
def k4c2 : Code := { maxStack := 4, maxLocals := 4, code := jdk_29_method_70_code, exceptionTable := #[], attributes := #[] }
def k4m2 : Method := { name := "min", desc := "(JJ)J", sig := { parameters := [.long, .long], returnType := some .long }, accessFlags := 9, code := some k4c2 }
/-- java/lang/Math -/
def k4 : Class := { plain "java/lang/Math" (some 0) with
  accessFlags := 49
  interfaces := #[]
  cf := some (fileOf pool4 1 #[.nestMembers #[98]] #[{ accessFlags := 2, nameIndex := 7, descriptorIndex := 8, attributes := #[] }, { accessFlags := 9, nameIndex := 198, descriptorIndex := 121, attributes := #[] }, { accessFlags := 9, nameIndex := 201, descriptorIndex := 121, attributes := #[] }] 49 4 #[] #[{ accessFlags := 25, nameIndex := 354, descriptorIndex := 339, attributes := #[] }, { accessFlags := 25, nameIndex := 358, descriptorIndex := 339, attributes := #[] }, { accessFlags := 25, nameIndex := 361, descriptorIndex := 339, attributes := #[] }, { accessFlags := 26, nameIndex := 364, descriptorIndex := 339, attributes := #[] }, { accessFlags := 26, nameIndex := 365, descriptorIndex := 339, attributes := #[] }, { accessFlags := 26, nameIndex := 172, descriptorIndex := 173, attributes := #[] }, { accessFlags := 26, nameIndex := 176, descriptorIndex := 173, attributes := #[] }, { accessFlags := 8, nameIndex := 344, descriptorIndex := 339, attributes := #[] }, { accessFlags := 8, nameIndex := 338, descriptorIndex := 339, attributes := #[] }, { accessFlags := 4120, nameIndex := 245, descriptorIndex := 246, attributes := #[] }])
  fields := #[{ name := "E", type := .double, accessFlags := 25, slot := 0, constantValue := 0 }, { name := "PI", type := .double, accessFlags := 25, slot := 1, constantValue := 0 }, { name := "TAU", type := .double, accessFlags := 25, slot := 2, constantValue := 0 }, { name := "DEGREES_TO_RADIANS", type := .double, accessFlags := 26, slot := 3, constantValue := 0 }, { name := "RADIANS_TO_DEGREES", type := .double, accessFlags := 26, slot := 4, constantValue := 0 }, { name := "negativeZeroFloatBits", type := .long, accessFlags := 26, slot := 5, constantValue := 0 }, { name := "negativeZeroDoubleBits", type := .long, accessFlags := 26, slot := 6, constantValue := 0 }, { name := "twoToTheDoubleScaleUp", type := .double, accessFlags := 8, slot := 7, constantValue := 0 }, { name := "twoToTheDoubleScaleDown", type := .double, accessFlags := 8, slot := 8, constantValue := 0 }, { name := "$assertionsDisabled", type := .boolean, accessFlags := 4120, slot := 9, constantValue := 0 }]
  methods := #[k4m0, k4m1, k4m2]
  instanceTypes := #[]
  staticTypes := #[.double, .double, .double, .double, .double, .long, .long, .double, .double, .boolean]
  resolved := Array.replicate 460 none
  statics := none }

def pool5 : Array CpInfo := pool [(1, u "java/lang/Cloneable"), (0, .class_ 1), (0, u "java/lang/Object"), (0, .class_ 3)] 3

/-- java/lang/Cloneable -/
def k5 : Class := { plain "java/lang/Cloneable" (some 0) with
  accessFlags := 1537
  interfaces := #[]
  cf := some (fileOf pool5 2 #[] #[] 1537 4 #[] #[])
  fields := #[]
  methods := #[]
  instanceTypes := #[]
  staticTypes := #[]
  resolved := Array.replicate 8 none
  statics := none }

def pool6 : Array CpInfo := pool [(1, u "java/io/Serializable"), (0, .class_ 1), (0, u "java/lang/Object"), (0, .class_ 3)] 3

/-- java/io/Serializable -/
def k6 : Class := { plain "java/io/Serializable" (some 0) with
  accessFlags := 1537
  interfaces := #[]
  cf := some (fileOf pool6 2 #[] #[] 1537 4 #[] #[])
  fields := #[]
  methods := #[]
  instanceTypes := #[]
  staticTypes := #[]
  resolved := Array.replicate 8 none
  statics := none }

/-- the primitive byte -/
def k7 : Class := { plain "byte" none with kind := .primitive 'B', accessFlags := 0x411 }
/-- [B -/
def k8 : Class := { plain "[B" (some 0) with kind := .array 7 .byte, interfaces := #[5, 6], accessFlags := 1041 }

/-- the primitive int -/
def k9 : Class := { plain "int" none with kind := .primitive 'I', accessFlags := 0x411 }
/-- [I -/
def k10 : Class := { plain "[I" (some 0) with kind := .array 9 .int, interfaces := #[5, 6], accessFlags := 1041 }

def heap : Heap := #[]
def classes : Array Class := #[k0, k1, k2, k3, k4, k5, k6, k7, k8, k9, k10]
def interned : List (Array UInt16 × Addr) := []
def slotsUsed : Nat := 0
def theMethod : MethodId := ⟨1, 1⟩
def args0 : Array Value := #[.int 5, .int 8, .int 1, .int 7, .long 5, .long 9]
def aboutOver (below : List Frame) : State where
  vm := { classes := classes, interned := interned.toArray }
  heap := heap
  slotsUsed := slotsUsed
  threads := #[{ frames := .invoking theMethod args0 :: below }]
def below0 : List Frame := [.native { method := ⟨0, 0⟩, args := #[] }]
def about1 : State := aboutOver below0
def p0 : Program := .bare "" "" ""
def e0 : Env := launch0.env 0 0 0
theorem w_frames : about1.frames = Frame.invoking theMethod args0 :: below0 := rfl
set_option maxRecDepth 65536 in
theorem w_args : argsFit about1.vm theMethod args0 = true := by decide +kernel
set_option maxRecDepth 65536 in
theorem w_heap : heapFits about1 = true := by decide +kernel
set_option maxRecDepth 65536 in
theorem w_runnable : about1.curStatus? = some .runnable := by decide +kernel
set_option maxRecDepth 65536 in
theorem w_alone : about1.alone = true := by decide +kernel
set_option maxRecDepth 65536 in
theorem w_named : about1.methodNamed? x = some theMethod := by decide +kernel
set_option maxRecDepth 65536 in
theorem w_hears : about1.hears theMethod below0 = true := by decide +kernel
set_option maxRecDepth 65536 in
theorem w_ripe : about1.ripe theMethod args0 below0 = true := by decide +kernel
theorem w_running : about1.status = .running := rfl
set_option maxRecDepth 65536 in
theorem w_room : about1.hasRoom e0.platform room_1 = true :=
  launch0.hasRoom_least _ room_1 (by decide +kernel) (by decide +kernel) (by decide +kernel) (by decide +kernel) (by decide +kernel) (by decide +kernel)
theorem allAtoms_all (ts : List Jvm.Cond) (a : Array Jvm.Value) (st : Jvm.State) : (allAtoms ts).before a st = ts.all (fun c => c.before a st) := by
  induction ts with
  | nil => rfl
  | cons c t ih =>
    show (Jvm.Cond.and c (allAtoms t)).before a st = _
    rw [Jvm.Cond.before_and, ih, List.all_cons]
def words1 : List Jvm.Cond := Jvm.Cond.code x code maxLocals ret :: tables_1
/-- a 'code' word, met by the world's own term for the bytes: nothing is compared byte by byte -/
theorem code_word {y : MethodName} {bytes : ByteArray} {mx : Nat} {rt : Option FieldType} {a : Array Value} {s : State} {m : MethodId} {meth : Method} {c : Code} (h1 : s.methodNamed? y = some m) (h2 : s.vm.method? m = some meth) (h3 : meth.code = some c) (h4 : c.code = bytes)
    (h5 : (c.maxLocals == mx && c.exceptionTable.isEmpty && decide (c.maxStack ≤ mostOperands) && decide (meth.sig.returnType = rt) && !meth.locks && decide (parseMethodDescriptor y.desc = some meth.sig)) = true) : (Jvm.Cond.code y bytes mx rt).before a s = true := by
  simp only [Bool.and_eq_true, beq_iff_eq, Bool.not_eq_true', decide_eq_true_eq] at h5
  obtain ⟨⟨⟨⟨⟨g1, g2⟩, g3⟩, g4⟩, g5⟩, g6⟩ := h5
  simp [Cond.before, Cond.holds, Cond.value, h1, h2, h3, h4, g1, g2, g3, g4, g5, g6]
def isCode : Jvm.Cond → Bool
  | .code _ _ _ _ => true
  | _ => false
theorem all_split {L : List Jvm.Cond} {P : Jvm.Cond → Bool} (h1 : L.all (fun c => isCode c || P c) = true) (h2 : ∀ c ∈ L.filter isCode, P c = true) : L.all P = true := by
  refine List.all_eq_true.mpr fun c hc => ?_
  have h := List.all_eq_true.mp h1 c hc
  rcases Bool.eq_false_or_eq_true (isCode c) with hi | hi
  · exact h2 c (List.mem_filter.mpr ⟨hc, hi⟩)
  · simpa [hi] using h
set_option maxRecDepth 65536 in
theorem w_c0 : (Jvm.Cond.code x code maxLocals ret).before args0 about1 = true := code_word (m := ⟨1, 1⟩) (meth := k1m1) (c := k1c1) (by decide +kernel) rfl rfl rfl (by decide +kernel)
set_option maxRecDepth 65536 in
theorem w_c1 : (Jvm.Cond.code ({ cls := "com/example/inch_scaler/inchscaler/FleetSettings", name := "<init>", desc := "(IIIIII)V" } : Jvm.MethodName) prog_13_method_1_code (7 : Nat) (Option.none : Option Jvm.ClassFile.FieldType)).before args0 about1 = true := code_word (m := ⟨3, 0⟩) (meth := k3m0) (c := k3c0) (by decide +kernel) rfl rfl rfl (by decide +kernel)
set_option maxRecDepth 65536 in
theorem w_c2 : (Jvm.Cond.code ({ cls := "java/lang/Record", name := "<init>", desc := "()V" } : Jvm.MethodName) jdk_30_method_1_code (1 : Nat) (Option.none : Option Jvm.ClassFile.FieldType)).before args0 about1 = true := code_word (m := ⟨2, 0⟩) (meth := k2m0) (c := k2c0) (by decide +kernel) rfl rfl rfl (by decide +kernel)
set_option maxRecDepth 65536 in
theorem w_c3 : (Jvm.Cond.code ({ cls := "java/lang/Object", name := "<init>", desc := "()V" } : Jvm.MethodName) object_method_1_code (1 : Nat) (Option.none : Option Jvm.ClassFile.FieldType)).before args0 about1 = true := code_word (m := ⟨0, 0⟩) (meth := k0m0) (c := k0c0) (by decide +kernel) rfl rfl rfl (by decide +kernel)
set_option maxRecDepth 65536 in
theorem w_c4 : (Jvm.Cond.code ({ cls := "com/example/inch_scaler/inchscaler/FleetSettings", name := "inTime", desc := "(J)Z" } : Jvm.MethodName) prog_13_method_2_code (3 : Nat) (Option.some Jvm.ClassFile.FieldType.boolean)).before args0 about1 = true := code_word (m := ⟨3, 1⟩) (meth := k3m1) (c := k3c1) (by decide +kernel) rfl rfl rfl (by decide +kernel)
set_option maxRecDepth 65536 in
theorem w_c5 : (Jvm.Cond.code ({ cls := "java/lang/Math", name := "min", desc := "(JJ)J" } : Jvm.MethodName) jdk_29_method_70_code (4 : Nat) (Option.some Jvm.ClassFile.FieldType.long)).before args0 about1 = true := code_word (m := ⟨4, 2⟩) (meth := k4m2) (c := k4c2) (by decide +kernel) rfl rfl rfl (by decide +kernel)
set_option maxRecDepth 65536 in
theorem w_c6 : (Jvm.Cond.code ({ cls := "java/lang/Math", name := "max", desc := "(JJ)J" } : Jvm.MethodName) jdk_29_method_66_code (4 : Nat) (Option.some Jvm.ClassFile.FieldType.long)).before args0 about1 = true := code_word (m := ⟨4, 1⟩) (meth := k4m1) (c := k4c1) (by decide +kernel) rfl rfl rfl (by decide +kernel)
def codes1 : List Jvm.Cond := [Jvm.Cond.code x code maxLocals ret, Jvm.Cond.code ({ cls := "com/example/inch_scaler/inchscaler/FleetSettings", name := "<init>", desc := "(IIIIII)V" } : Jvm.MethodName) prog_13_method_1_code (7 : Nat) (Option.none : Option Jvm.ClassFile.FieldType), Jvm.Cond.code ({ cls := "java/lang/Record", name := "<init>", desc := "()V" } : Jvm.MethodName) jdk_30_method_1_code (1 : Nat) (Option.none : Option Jvm.ClassFile.FieldType), Jvm.Cond.code ({ cls := "java/lang/Object", name := "<init>", desc := "()V" } : Jvm.MethodName) object_method_1_code (1 : Nat) (Option.none : Option Jvm.ClassFile.FieldType), Jvm.Cond.code ({ cls := "com/example/inch_scaler/inchscaler/FleetSettings", name := "inTime", desc := "(J)Z" } : Jvm.MethodName) prog_13_method_2_code (3 : Nat) (Option.some Jvm.ClassFile.FieldType.boolean), Jvm.Cond.code ({ cls := "java/lang/Math", name := "min", desc := "(JJ)J" } : Jvm.MethodName) jdk_29_method_70_code (4 : Nat) (Option.some Jvm.ClassFile.FieldType.long), Jvm.Cond.code ({ cls := "java/lang/Math", name := "max", desc := "(JJ)J" } : Jvm.MethodName) jdk_29_method_66_code (4 : Nat) (Option.some Jvm.ClassFile.FieldType.long)]
set_option maxRecDepth 65536 in
theorem codes_eq : words1.filter isCode = codes1 := rfl
theorem w_codes : ∀ c ∈ words1.filter isCode, c.before args0 about1 = true := by
  rw [codes_eq]
  intro c hc
  simp only [codes1, List.mem_cons, List.not_mem_nil, or_false] at hc
  rcases hc with rfl | rfl | rfl | rfl | rfl | rfl | rfl
  · exact w_c0
  · exact w_c1
  · exact w_c2
  · exact w_c3
  · exact w_c4
  · exact w_c5
  · exact w_c6
set_option maxRecDepth 65536 in
theorem w_t1 : (words1.take 24).all (fun c => isCode c || c.before args0 about1) = true := by decide +kernel
set_option maxRecDepth 65536 in
theorem w_t2 : (words1.drop 24).all (fun c => isCode c || c.before args0 about1) = true := by decide +kernel
theorem w_tables : (allAtoms (Jvm.Cond.code x code maxLocals ret :: tables_1)).before args0 about1 = true := by
  rw [allAtoms_all]
  show words1.all (fun c => c.before args0 about1) = true
  refine all_split ?_ w_codes
  rw [← List.take_append_drop 24 words1, List.all_append, w_t1, w_t2]
  rfl
set_option maxRecDepth 65536 in
theorem w_case : (Jvm.Cond.and given_1 narrow_1).before args0 about1 = true := by decide +kernel
theorem w_applies : (headSpec (Jvm.Cond.code x code maxLocals ret :: tables_1) room_1).applies x e0.platform about1 = true :=
  (Spec.applies_iff w_frames).mpr ⟨w_running, w_runnable, w_alone, w_named, w_hears, w_ripe, w_room, w_tables⟩
theorem atStart : AtStart classFile x code maxLocals ret World_1 tables_1 room_1 Calls_1 rest_1 Pre_1 launch0 p0 e0 about1 theMethod args0 below0 :=
  ⟨lists_1, trivial, launch0.admits_env _ _ _, launch0.least_env, fairChoices_fair.cas, fairChoices_fair.clock, w_frames, w_args, w_heap, w_applies, trivial, trivial, w_case⟩
end start1
theorem witness_1 : WitnessClaimed_1 := ⟨start1.p0, start1.e0, start1.about1, start1.theMethod, start1.args0, start1.below0, start1.atStart⟩
end Jvm.Pilot.@@N@@
